import Derived.Test.Qxb6613964aFmtVec
import Derived.Deep.MidRow
namespace Go.Proofs.Qxb6613964aFmt
open Go.RowKit

set_option maxRecDepth 10000 in
set_option maxHeartbeats 400000 in
/-- appendNodeHash(b, h) -/
theorem nodeHash_any (w : World) (v : Value) (bs : List Int) (B : Nat) (hown : Own w B 5 v bs) (hl : bs.length ≤ 549755813888) (hB : B ≤ w.heap.size) (r : List Int) (hr : r.length = 32) :
    Calls Tryf.prog 16 #[v, .agg (I r).toArray] w fun e w' => ∃ v', e = .returned v' ∧ Own w' B 5 v' (bs ++ 32 :: r) ∧ Ap w w' v v' := by
  have HR : Hid (r.length = 32) := hr
  clear hr
  go_enter Tryf.func16, Tryf.ntmps16
  go_wp2_with fail
  refine (vec1 _ v bs _ 32 r 32 HR.out B (hown.alloc _) hl (by simp; omega) (Src.litAt rfl rfl) (fun h => by cases h) (apart_lit hown r) (by decide)).mono ?_
  rintro e w' ⟨v', rfl, ho, ha⟩
  go_wp2
  go_ret
  exact ⟨v', rfl, by simpa using ho, (Ap.alloc w v _).trans ha⟩

/-- A tree head, as it lies in memory. -/
structure Head (w : World) (b off : Nat) (ts sz : Int) (r : List Int) : Prop where
  c0 : w.cell? ⟨b, off, none⟩ = some (.int .u64 ts)
  c1 : w.cell? ⟨b, off + 1, none⟩ = some (.int .u64 sz)
  rng : w.rangeAt b (off + 2) (I r)

theorem Head.lt {w : World} {b off : Nat} {ts sz : Int} {r : List Int} (h : Head w b off ts sz r) : b < w.heap.size := World.block_lt_of_cell? w _ h.c0

theorem Head.below {w w' : World} {b off : Nat} {ts sz : Int} {r : List Int} (h : Head w b off ts sz r) (hb : Below w.heap.size w w') : Head w' b off ts sz r :=
  ⟨by rw [hb.cell (p := ⟨b, off, none⟩) h.lt]; exact h.c0, by rw [hb.cell (p := ⟨b, off + 1, none⟩) h.lt]; exact h.c1, fun j v hv => by rw [hb.cell (p := ⟨b, off + 2 + j, none⟩) h.lt]; exact h.rng j v hv⟩

/-- The bytes that TreeHead.Marshal gives. -/
def headBytes (ts sz : Int) (r : List Int) : List Int := be64 ts ++ be64 sz ++ 32 :: r ++ [0, 0]

theorem be64_length (x : Int) : (be64 x).length = 8 := rfl

theorem Tryf.info27 : (Tryf.prog.info? 27).map (·.size) = some 32 := by kernel_rfl

set_option maxRecDepth 10000 in
set_option maxHeartbeats 400000 in
/-- (*TreeHead).Marshal() -/
theorem head_any (w : World) (b off : Nat) (ts sz : Int) (r : List Int) (hh : Head w b off ts sz r) (hr : r.length = 32) (h1 : 0 ≤ ts) (h2 : ts ≤ 18446744073709551615) (h3 : 0 ≤ sz) (h4 : sz ≤ 18446744073709551615) :
    Calls Tryf.prog 11 #[.pointer (some ⟨b, off, none⟩)] w fun e w' => ∃ v', e = .returned v' ∧ Own w' w.heap.size 5 v' (headBytes ts sz r) ∧ Below w.heap.size w w' := by
  have HR : Hid (r.length = 32) := hr
  clear hr
  have k0 := hh.c0
  go_enter Tryf.func11, Tryf.ntmps11
  go_wp2_with fail
  refine (u64w _ _ [] _ w.heap.size (Own.nil _ _ _) (by simp) (Nat.le_refl _) h1 h2).mono ?_
  rintro e w1 ⟨v1, rfl, ho1, ha1⟩
  have hb1 : Below w.heap.size w w1 := ha1.below (Nat.le_refl _) (fun k hk => by cases hk)
  have k1 := (hh.below hb1).c1
  have hz1 := hb1.size
  go_wp2_with fail
  refine (u64w _ _ _ _ w.heap.size ho1 (by simp [be64_length]) hz1 h3 h4).mono ?_
  rintro e w2 ⟨v2, rfl, ho2, ha2⟩
  have hb2 : Below w.heap.size w w2 := hb1.trans (ha2.below hz1 (fun k hk => (ho1.lt k hk).1))
  have hz2 := hb2.size
  have k2 := (hh.below hb2).rng
  have hq : (Tryf.prog.info? 27).map (·.size) = some (I r).length := by rw [I_length, HR.out]; exact Tryf.info27
  have HQ : Hid _ := hq
  clear hq k0 k1
  go_wp2_with (refine wpList_load_mid rfl 27 _ rfl b (off + 2) rfl (I r) _ k2 Tryf.underlying27 rfl HQ.out ?_)
  clear HQ k2
  refine (nodeHash_any _ _ _ w.heap.size ho2 (by simp [be64_length]) hz2 r HR.out).mono ?_
  rintro e w3 ⟨v3, rfl, ho3, ha3⟩
  have hb3 : Below w.heap.size w w3 := hb2.trans (ha3.below hz2 (fun k hk => (ho2.lt k hk).1))
  have hz3 := hb3.size
  go_wp2_with fail
  refine (noExt_any _ _ _ w.heap.size ho3 (by have := HR.out; simp [be64_length]; omega) hz3).mono ?_
  rintro e w4 ⟨v4, rfl, ho4, ha4⟩
  have hb4 : Below w.heap.size w w4 := hb3.trans (ha4.below hz3 (fun k hk => (ho3.lt k hk).1))
  go_wp2
  go_ret
  exact ⟨v4, rfl, by simpa [headBytes] using ho4, hb4⟩

/-- The bytes that SignedTreeHead.Marshal gives. -/
def itemBytes (id : List Int) (ts sz : Int) (r sg : List Int) : List Int :=
  [1, 4] ++ (id.length : Int) :: id ++ headBytes ts sz r ++ ((sg.length : Int) / 256) :: ((sg.length : Int) % 256) :: sg

theorem headBytes_length (ts sz : Int) (r : List Int) (h : r.length = 32) : (headBytes ts sz r).length = 51 := by simp [headBytes, be64_length, h]

set_option maxRecDepth 10000 in
set_option maxHeartbeats 800000 in
/-- (*SignedTreeHead).Marshal() -/
theorem item_any (w : World) (b off : Nat) (ts sz : Int) (r id sg : List Int) (ao bo : Option Addr) (n m c d : Nat) (hh : Head w b (off + 1) ts sz r) (hr : r.length = 32) (h1 : 0 ≤ ts) (h2 : ts ≤ 18446744073709551615) (h3 : 0 ≤ sz) (h4 : sz ≤ 18446744073709551615)
    (k0 : w.cell? ⟨b, off, none⟩ = some (.slice ao n c)) (k1 : w.cell? ⟨b, off + 35, none⟩ = some (.slice bo m d)) (hsa : Src w ao id) (hsb : Src w bo sg) (hca : ao = none → c = 0) (hcb : bo = none → d = 0)
    (hn : id.length = n) (hm : sg.length = m) (hn2 : n ≤ 255) (hm2 : m ≤ 65535) :
    Calls Tryf.prog 14 #[.pointer (some ⟨b, off, none⟩)] w fun e w' => ∃ v', e = .returned v' ∧ Own w' w.heap.size 5 v' (itemBytes id ts sz r sg) ∧ Below w.heap.size w w' := by
  obtain ⟨i0, hi, hz0, hz1, hz2⟩ := info_parts Tryf.info5
  have HR : Hid (r.length = 32) := hr
  have HN : Hid (id.length = n) := hn
  have HM : Hid (sg.length = m) := hm
  have HN2 : Hid (n ≤ 255) := hn2
  have HM2 : Hid (m ≤ 65535) := hm2
  have hlt := hh.lt
  clear hr hn hm hn2 hm2
  go_enter Tryf.func14, Tryf.ntmps14
  go_wp2_with fail
  refine (newItem_any _ 260 w.heap.size (Nat.le_refl _) (by decide) (by decide)).mono ?_
  rintro e w1 ⟨v1, rfl, ho1, ha1⟩
  have hb1 : Below w.heap.size w w1 := ha1.below (Nat.le_refl _) (fun k hk => by cases hk)
  have hs1 := hb1.size
  have k01 : w1.cell? ⟨b, off, none⟩ = some (.slice ao n c) := by rw [hb1.cell (p := ⟨b, off, none⟩) hlt]; exact k0
  have hsa1 := hsa.belowAll hb1
  have hap1 : Apart ao id v1 := by
    intro ad hd hz he
    subst hd
    have := (ho1.lt _ he.symm).1
    have := hsa.lt hz
    omega
  clear k0
  go_wp2_with fail
  refine (vec1 _ v1 _ ao c id n HN.out w.heap.size ho1 (by simp) hs1 hsa1 hca hap1 HN2.out).mono ?_
  rintro e w2 ⟨v2, rfl, ho2, ha2⟩
  have hb2 : Below w.heap.size w w2 := hb1.trans (ha2.below hs1 (fun k hk => (ho1.lt k hk).1))
  have hs2 := hb2.size
  have hh2 := hh.below hb2
  clear k01 hsa1 hap1
  go_wp2_with fail
  refine (head_any _ b (off + 1) ts sz r hh2 HR.out h1 h2 h3 h4).mono ?_
  rintro e w3 ⟨v3, rfl, ho3, hb3⟩
  obtain ⟨ao3, c3, rfl, hsrc3, hc3, _⟩ := ho3.shape
  have ho2' : Own w3 w.heap.size 5 v2 _ := ho2.below hb3 (fun k hk => (ho2.lt k hk).2)
  have hb3' : Below w.heap.size w w3 := hb2.trans (hb3.mono hs2)
  have hs3 := hb3'.size
  have hl3 : (headBytes ts sz r).length = 51 := headBytes_length ts sz r HR.out
  have HL3 : Hid ((headBytes ts sz r).length = 51) := hl3
  clear hl3
  go_wp2_with (at_builtin; refine wpList_append_ap _ rfl _ _ 22 rfl w.heap.size 5 i0 Tryf.underlying22 hi hz0 hz1 hz2 v2 _ rfl ho2' ao3 _ c3 (headBytes ts sz r) rfl rfl hsrc3 hc3 (by have := HL3.out; have := HN.out; have := HN2.out; simp; omega) hs3 ?_; intro v4 w4 ho4 ha4; have hb4 : Below w.heap.size w w4 := hb3'.trans (ha4.below hs3 (fun k hk => (ho2'.lt k hk).1)); have k14 : w4.cell? ⟨b, off + 35, none⟩ = some (.slice bo m d) := by rw [hb4.cell (p := ⟨b, off + 35, none⟩) hlt]; exact k1)
  have hs4 := hb4.size
  have hsb4 := hsb.belowAll hb4
  have hap4 : Apart bo sg v4 := by
    intro ad hd hz he
    subst hd
    have := (ho4.lt _ he.symm).1
    have := hsb.lt hz
    omega
  refine (vec2 _ v4 _ bo d sg m HM.out w.heap.size ho4 (by have := HL3.out; have := HN.out; have := HN2.out; simp; omega) hs4 hsb4 hcb hap4 HM2.out).mono ?_
  rintro e w5 ⟨v5, rfl, ho5, ha5⟩
  have hb5 : Below w.heap.size w w5 := hb4.trans (ha5.below hs4 (fun k hk => (ho4.lt k hk).1))
  go_wp2
  go_ret
  refine ⟨v5, rfl, ?_, hb5⟩
  have e1 := HN.out
  have e2 := HM.out
  unfold itemBytes
  rw [e1, e2]
  simpa using ho5
end Go.Proofs.Qxb6613964aFmt
