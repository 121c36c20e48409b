import Derived.Test.Qxb6613964aFmtBuild
namespace Go.Proofs.Qxb6613964aFmt
open Go.RowKit

set_option maxRecDepth 10000 in
set_option maxHeartbeats 1000000 in
/-- zzAppendBE64(b, v) -/
theorem zzbe64 (w : World) (v : Value) (bs : List Int) (x : Int) (B : Nat) (hown : Own w B 5 v bs) (hl : bs.length ≤ 549755813888) (hB : B ≤ w.heap.size) (hx : 0 ≤ x) (hx2 : x ≤ 18446744073709551615) :
    Calls Tryf.prog 19 #[v, .int .u64 x] w fun e w' => ∃ v', e = .returned v' ∧ Own w' B 5 v' (bs ++ be64 x) ∧ Ap w w' v v' := by
  obtain ⟨i0, hi, hz0, hz1, hz2⟩ := info_parts Tryf.info5
  go_enter Tryf.func19, Tryf.ntmps19
  go_wp2_with fail
  refine wp_loop_rounds 9 ?_
  rw [rounds_succ]
  go_wp2_with (at_builtin; refine wpList_append_ap _ rfl _ _ 22 rfl B 5 i0 Tryf.underlying22 hi hz0 hz1 hz2 v _ rfl (hown.alloc _) (some ⟨w.heap.size, 0, none⟩) 1 1 [x / 72057594037927936] rfl rfl (Src.litAt (by simp) rfl) (fun h => by cases h) (by simp; omega) (by simp; omega) ?_; intro v1 w1 ho1 ha1)
  have hA1 := (Ap.alloc w v _).trans ha1
  have hsz1 := hA1.grown.size
  clear ha1 hown
  rw [rounds_succ]
  go_wp2_with (at_builtin; refine wpList_append_ap _ rfl _ _ 22 rfl B 5 i0 Tryf.underlying22 hi hz0 hz1 hz2 v1 _ rfl (ho1.alloc _) (some ⟨w1.heap.size, 0, none⟩) 1 1 [x / 281474976710656 % 256] rfl rfl (Src.litAt (by simp) rfl) (fun h => by cases h) (by simp; omega) (by simp; omega) ?_; intro v2 w2 ho2 ha2)
  have hA2 := hA1.trans ((Ap.alloc w1 v1 _).trans ha2)
  have hsz2 := hA2.grown.size
  clear ha2 ho1 hA1 hsz1
  rw [rounds_succ]
  go_wp2_with (at_builtin; refine wpList_append_ap _ rfl _ _ 22 rfl B 5 i0 Tryf.underlying22 hi hz0 hz1 hz2 v2 _ rfl (ho2.alloc _) (some ⟨w2.heap.size, 0, none⟩) 1 1 [x / 1099511627776 % 256] rfl rfl (Src.litAt (by simp) rfl) (fun h => by cases h) (by simp; omega) (by simp; omega) ?_; intro v3 w3 ho3 ha3)
  have hA3 := hA2.trans ((Ap.alloc w2 v2 _).trans ha3)
  have hsz3 := hA3.grown.size
  clear ha3 ho2 hA2 hsz2
  rw [rounds_succ]
  go_wp2_with (at_builtin; refine wpList_append_ap _ rfl _ _ 22 rfl B 5 i0 Tryf.underlying22 hi hz0 hz1 hz2 v3 _ rfl (ho3.alloc _) (some ⟨w3.heap.size, 0, none⟩) 1 1 [x / 4294967296 % 256] rfl rfl (Src.litAt (by simp) rfl) (fun h => by cases h) (by simp; omega) (by simp; omega) ?_; intro v4 w4 ho4 ha4)
  have hA4 := hA3.trans ((Ap.alloc w3 v3 _).trans ha4)
  have hsz4 := hA4.grown.size
  clear ha4 ho3 hA3 hsz3
  rw [rounds_succ]
  go_wp2_with (at_builtin; refine wpList_append_ap _ rfl _ _ 22 rfl B 5 i0 Tryf.underlying22 hi hz0 hz1 hz2 v4 _ rfl (ho4.alloc _) (some ⟨w4.heap.size, 0, none⟩) 1 1 [x / 16777216 % 256] rfl rfl (Src.litAt (by simp) rfl) (fun h => by cases h) (by simp; omega) (by simp; omega) ?_; intro v5 w5 ho5 ha5)
  have hA5 := hA4.trans ((Ap.alloc w4 v4 _).trans ha5)
  have hsz5 := hA5.grown.size
  clear ha5 ho4 hA4 hsz4
  rw [rounds_succ]
  go_wp2_with (at_builtin; refine wpList_append_ap _ rfl _ _ 22 rfl B 5 i0 Tryf.underlying22 hi hz0 hz1 hz2 v5 _ rfl (ho5.alloc _) (some ⟨w5.heap.size, 0, none⟩) 1 1 [x / 65536 % 256] rfl rfl (Src.litAt (by simp) rfl) (fun h => by cases h) (by simp; omega) (by simp; omega) ?_; intro v6 w6 ho6 ha6)
  have hA6 := hA5.trans ((Ap.alloc w5 v5 _).trans ha6)
  have hsz6 := hA6.grown.size
  clear ha6 ho5 hA5 hsz5
  rw [rounds_succ]
  go_wp2_with (at_builtin; refine wpList_append_ap _ rfl _ _ 22 rfl B 5 i0 Tryf.underlying22 hi hz0 hz1 hz2 v6 _ rfl (ho6.alloc _) (some ⟨w6.heap.size, 0, none⟩) 1 1 [x / 256 % 256] rfl rfl (Src.litAt (by simp) rfl) (fun h => by cases h) (by simp; omega) (by simp; omega) ?_; intro v7 w7 ho7 ha7)
  have hA7 := hA6.trans ((Ap.alloc w6 v6 _).trans ha7)
  have hsz7 := hA7.grown.size
  clear ha7 ho6 hA6 hsz6
  rw [rounds_succ]
  go_wp2_with (at_builtin; refine wpList_append_ap _ rfl _ _ 22 rfl B 5 i0 Tryf.underlying22 hi hz0 hz1 hz2 v7 _ rfl (ho7.alloc _) (some ⟨w7.heap.size, 0, none⟩) 1 1 [x % 256] rfl rfl (Src.litAt (by simp) rfl) (fun h => by cases h) (by simp; omega) (by simp; omega) ?_; intro v8 w8 ho8 ha8)
  have hA8 := hA7.trans ((Ap.alloc w7 v7 _).trans ha8)
  have hsz8 := hA8.grown.size
  clear ha8 ho7 hA7 hsz7
  rw [rounds_succ]
  go_wp2
  go_ret
  exact ⟨v8, rfl, by simpa [be64] using ho8, hA8⟩

theorem ownMake {w : World} {B : Nat} {e : TypeId} {v : Value} (h : w.ownsRow B e 1 v 0 []) : Own w B e v [] := h

theorem cellRange {w : World} {b k : Nat} {r : List Int} (h : w.rangeAt b 0 (I r)) (hk : k < r.length) : w.cell? ⟨b, k, none⟩ = some (.int .u8 (r.getD k 0)) := by
  have := h k (.int .u8 (r.getD k 0)) (by simp [I, hk])
  simpa using this

theorem take_snoc (r : List Int) (k : Nat) (hk : k < r.length) : r.take (k + 1) = r.take k ++ [r.getD k 0] := by
  rw [List.take_succ_eq_append_getElem hk]
  simp [hk]

set_option maxRecDepth 10000 in
set_option maxHeartbeats 1000000 in
/-- zzTreeHeadModel(ts, size, root) -/
theorem model_any (w : World) (ts sz : Int) (r : List Int) (hr : r.length = 32) (h1 : 0 ≤ ts) (h2 : ts ≤ 18446744073709551615) (h3 : 0 ≤ sz) (h4 : sz ≤ 18446744073709551615) :
    Calls Tryf.prog 12 #[.int .u64 ts, .int .u64 sz, .agg (I r).toArray] w fun e w' => ∃ v', e = .returned v' ∧ Own w' w.heap.size 5 v' (headBytes ts sz r) ∧ Below w.heap.size w w' := by
  obtain ⟨i0, hi, hz0, hz1, hz2⟩ := info_parts Tryf.info5
  have HR : Hid (r.length = 32) := hr
  clear hr
  have g0 := rangeNew w r 23
  go_enter Tryf.func12, Tryf.ntmps12
  go_wp2_with (at_make; refine wpList_make_own _ rfl _ _ 22 rfl (w.heap.size + 1) 5 i0 (.int .u8 0) 1 Tryf.underlying22 hi hz0 hz1 .i64 .i64 51 51 rfl rfl (by omega) (by rw [hz2]; decide) (by decide) (by simp) ?_; intro w1 ho1 hg1)
  rw [World.size_alloc] at ho1
  obtain ⟨v1, hv1⟩ : ∃ v, v = Value.slice (some { block := w.heap.size + 1, off := 0 }) 0 51 := ⟨_, rfl⟩
  rw [← hv1] at ho1 ⊢
  clear hv1
  have b1 : Below (w.heap.size + 1) (w.alloc (.cells (I r).toArray 23)) w1 := (Below.refl _ _).grown hg1 (by simp) (fun k hk => by cases hk)
  have hs1 : w.heap.size + 1 ≤ w1.heap.size := by have := b1.size; simpa using this
  have o1 : Own w1 (w.heap.size + 1) 5 v1 [] := ho1
  clear ho1 hg1
  refine (zzbe64 _ v1 [] ts (w.heap.size + 1) o1 (by simp) hs1 h1 h2).mono ?_
  rintro e w2 ⟨v2, rfl, o2, a2⟩
  have b2 : Below (w.heap.size + 1) (w.alloc (.cells (I r).toArray 23)) w2 := b1.trans (a2.below hs1 (fun k hk => (o1.lt k hk).1))
  have hs2 : w.heap.size + 1 ≤ w2.heap.size := by have := b2.size; simpa using this
  go_wp2_with fail
  refine (zzbe64 _ v2 _ sz (w.heap.size + 1) o2 (by simp [be64_length]) hs2 h3 h4).mono ?_
  rintro e w3 ⟨v3, rfl, o3, a3⟩
  have b3 : Below (w.heap.size + 1) (w.alloc (.cells (I r).toArray 23)) w3 := b2.trans (a3.below hs2 (fun k hk => (o2.lt k hk).1))
  have hs3 : w.heap.size + 1 ≤ w3.heap.size := by have := b3.size; simpa using this
  clear o1 o2 a2 a3 b1 b2 hs1 hs2
  go_wp2_with (at_builtin; refine wpList_append_ap _ rfl _ _ 22 rfl (w.heap.size + 1) 5 i0 Tryf.underlying22 hi hz0 hz1 hz2 v3 _ rfl (o3.alloc _) (some ⟨w3.heap.size, 0, none⟩) 1 1 [32] rfl rfl (Src.litAt (by simp) rfl) (fun h => by cases h) (by simp [be64_length]) (by simp; omega) ?_; intro v4 w4 o4 a4)
  have b4 : Below (w.heap.size + 1) (w.alloc (.cells (I r).toArray 23)) w4 := b3.trans (((Ap.alloc w3 v3 _).trans a4).below hs3 (fun k hk => (o3.lt k hk).1))
  clear a4 o3 b3 hs3
  go_loopw [7, 8] (fun v i wr => ∃ k : Nat, k ≤ 32 ∧ i = .int .i64 k ∧ Own wr (w.heap.size + 1) 5 v (be64 ts ++ be64 sz ++ 32 :: r.take k) ∧ Below (w.heap.size + 1) (w.alloc (.cells (I r).toArray 23)) wr) (fun _ i _ => 32 - (intOf i).toNat)
  case atStart => exact ⟨0, by omega, rfl, by simpa using o4, b4⟩
  case round =>
    obtain ⟨k, hk, rfl, ok, bk⟩ := hrel
    have hsr : w.heap.size + 1 ≤ wr.heap.size := by have := bk.size; simpa using this
    by_cases hlt : k < 32
    · have hc : wr.cell? ⟨w.heap.size, k, none⟩ = some (.int .u8 (r.getD k 0)) := by
        rw [bk.cell (p := ⟨w.heap.size, k, none⟩) (by show w.heap.size < _; omega)]
        exact cellRange g0 (by rw [HR.out]; exact hlt)
      obtain ⟨y, hy⟩ : ∃ y, y = r.getD k 0 := ⟨_, rfl⟩
      rw [← hy] at hc
      have HY : Hid (y = r.getD k 0) := hy
      clear hy
      have hltI : (k : Int) < 32 := by omega
      go_wp2_with (at_builtin; refine wpList_append_ap _ rfl _ _ 22 rfl (w.heap.size + 1) 5 i0 Tryf.underlying22 hi hz0 hz1 hz2 u7 _ rfl (ok.alloc _) (some ⟨wr.heap.size, 0, none⟩) 1 1 [y] rfl rfl (Src.litAt (by simp) rfl) (fun h => by cases h) (by simp [be64_length]; omega) (by simp; omega) ?_; intro v5 w5 o5 a5)
      have b5 : Below (w.heap.size + 1) (w.alloc (.cells (I r).toArray 23)) w5 := bk.trans (((Ap.alloc wr u7 _).trans a5).below hsr (fun k hk => (ok.lt k hk).1))
      clear a5 ok bk hc
      go_wp2
      go_roundw
      case rel =>
        refine ⟨k + 1, by omega, by go_num, ?_, b5⟩
        rw [take_snoc r k (by rw [HR.out]; exact hlt), ← HY.out]
        simpa using o5
      case measure => simp [intOf]; omega
    · obtain rfl : k = 32 := by omega
      rw [List.take_of_length_le (by rw [HR.out]; exact Nat.le_refl _)] at ok
      go_wp2_with (at_builtin; refine wpList_append_ap _ rfl _ _ 22 rfl (w.heap.size + 1) 5 i0 Tryf.underlying22 hi hz0 hz1 hz2 u7 _ rfl (ok.alloc _) (some ⟨wr.heap.size, 0, none⟩) 2 2 [0, 0] rfl rfl (Src.litAt (by simp) rfl) (fun h => by cases h) (by have := HR.out; simp [be64_length]; omega) (by simp; omega) ?_; intro v5 w5 o5 a5)
      have b5 : Below (w.heap.size + 1) (w.alloc (.cells (I r).toArray 23)) w5 := bk.trans (((Ap.alloc wr u7 _).trans a5).below hsr (fun k hk => (ok.lt k hk).1))
      go_ret
      exact ⟨v5, rfl, (by simpa [headBytes] using o5.mono (Nat.le_succ _)), ((Below.refl _ w).alloc (Nat.le_refl _) _).trans (b5.mono (Nat.le_succ _))⟩

set_option maxRecDepth 10000 in
set_option maxHeartbeats 1000000 in
/-- zzCloneBytes(s) -/
theorem clone_any (w : World) (ao : Option Addr) (n c : Nat) (zs : List Int) (hn : zs.length = n) (hs : Src w ao zs) (hl : n ≤ 549755813888) :
    Calls Tryf.prog 8 #[.slice ao n c] w fun e w' => ∃ v', e = .returned v' ∧ Own w' w.heap.size 5 v' zs ∧ Below w.heap.size w w' := by
  obtain ⟨i0, hi, hz0, hz1, hz2⟩ := info_parts Tryf.info5
  have HN : Hid (zs.length = n) := hn
  have HL : Hid (n ≤ 549755813888) := hl
  clear hn hl
  have heql := fun (wx : World) (a : Option Addr) (n c : Nat) => Lib.run_eql_slice_nil (P := Tryf.prog) wx 22 5 a n c 0 0 Tryf.underlying22
  cases ao with
  | none =>
    obtain rfl := hs.1 rfl
    go_enter Tryf.func8, Tryf.ntmps8
    go_wp2
    go_ret
    exact ⟨_, rfl, Own.nil _ _ _, Below.refl _ _⟩
  | some ad =>
    go_enter Tryf.func8, Tryf.ntmps8
    go_wp2_with (first | (at_make; refine wpList_make_ap rfl _ _ 22 rfl w.heap.size 5 i0 Tryf.underlying22 hi hz0 hz1 hz2 n rfl rfl (by have := HL.out; omega) (Nat.le_refl _) ?_; intro w2 ho2 hg2) | (refine wpList_copy_ap rfl _ _ 22 22 rfl 5 Tryf.underlying22 Tryf.size5 w.heap.size w.heap.size n (some ad) c rfl rfl _ zs (by simp) HN.out ho2 (hs.grown hg2 (by simp)) ?_; intro w3 ho3 hg3))
    go_ret
    refine ⟨_, rfl, ho3, ((Below.refl _ _).grown hg2 (Nat.le_refl _) (fun k hk => by cases hk)).grown hg3 hg2.size (fun k hk => ?_)⟩
    cases hk
    exact Nat.le_refl _

set_option maxRecDepth 10000 in
set_option maxHeartbeats 400000 in
/-- ZZappendNodeHash(b, h) -/
theorem zzNodeHash_any (w : World) (v : Value) (bs : List Int) (B : Nat) (hown : Own w B 5 v bs) (hl : bs.length ≤ 549755813888) (hB : B ≤ w.heap.size) (r : List Int) (hr : r.length = 32) :
    Calls Tryf.prog 9 #[v, .agg (I r).toArray] w fun e w' => ∃ v', e = .returned v' ∧ Own w' B 5 v' (bs ++ 32 :: r) ∧ Ap w w' v v' := by
  have HR : Hid (r.length = 32) := hr
  have HQ : Hid ((Tryf.prog.info? 27).map (·.size) = some (I r).length) := by show _ = _; rw [I_length, HR.out]; exact Tryf.info27
  clear hr
  have g := rangeNew w r 27
  go_enter Tryf.func9, Tryf.ntmps9
  go_wp2_with (refine wpList_load_mid rfl 27 _ rfl w.heap.size 0 rfl (I r) _ g Tryf.underlying27 rfl HQ.out ?_)
  refine (nodeHash_any _ v bs B (hown.alloc _) hl (by simp; omega) r HR.out).mono ?_
  rintro e w' ⟨v', rfl, ho, ha⟩
  go_wp2
  go_ret
  exact ⟨v', rfl, ho, (Ap.alloc w v _).trans ha⟩

end Go.Proofs.Qxb6613964aFmt
