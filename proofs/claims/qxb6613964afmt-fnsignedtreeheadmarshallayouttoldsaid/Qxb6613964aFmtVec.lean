import Derived.Test.Qxb6613964aFmtLeaves
import Derived.BigQuiet
import Derived.OpenShut
import Derived.Deep.QuietTactic
namespace Go.Proofs.Qxb6613964aFmt
open Go.RowKit
set_option maxRecDepth 100000 in
set_option maxHeartbeats 400000 in
/-- AppendVector(b, 1, v) -/
theorem vec1 (w : World) (v : Value) (bs : List Int) (ao : Option Addr) (c : Nat) (zs : List Int) (n : Nat) (hn : zs.length = n) (B : Nat) (hown : Own w B 5 v bs) (hl : bs.length ≤ 549755813888) (hB : B ≤ w.heap.size)
    (hsrc : Src w ao zs) (hc : ao = none → c = 0) (hap : Apart ao zs v) (h255 : n ≤ 255) :
    Calls Tryf.prog 21 #[v, .int .i64 1, .slice ao n c] w fun e w' => ∃ v', e = .returned v' ∧ Own w' B 5 v' (bs ++ (n : Int) :: zs) ∧ Ap w w' v v' := by
  obtain ⟨i0, hi, hz0, hz1, hz2⟩ := info_parts Tryf.info5
  have HN : Hid (zs.length = n) := hn
  have hd : decide ((256 : Int) ≤ (n : Int)) = false := by rw [decide_eq_false_iff_not]; omega
  have hnI : (n : Int) ≤ 255 := by omega
  clear hn h255
  go_enter Tryf.func21, Tryf.ntmps21
  go_wp2_with fail
  refine wp_loop_rounds 2 ?_
  rw [rounds_succ]
  go_wp2_with (at_builtin; refine wpList_append_ap _ rfl _ _ 22 rfl B 5 i0 Tryf.underlying22 hi hz0 hz1 hz2 v bs rfl (hown.alloc _) (some ⟨w.heap.size, 0, none⟩) 1 1 [(n : Int)] rfl rfl (Src.litAt (by simp) rfl) (fun h => by cases h) (by simp; omega) (by simp; omega) ?_; intro v1 w1 ho ha)
  rw [rounds_succ]
  obtain ⟨hs1, ha1⟩ := Apart.step (hsrc.alloc _) hap ha
  have hA1 := (Ap.alloc w v _).trans ha
  have hsz := hA1.grown.size
  clear hsrc hap hown ha
  go_wp2_with (at_builtin; refine wpList_append_ap _ rfl _ _ 22 rfl B 5 i0 Tryf.underlying22 hi hz0 hz1 hz2 v1 _ rfl ho ao n c zs rfl HN.out.symm hs1 hc (by have := HN.out; simp; omega) (by omega) ?_; intro v2 w2 ho2 ha2)
  go_ret
  exact ⟨v2, rfl, by simpa using ho2, hA1.trans ha2⟩

set_option maxRecDepth 100000 in
set_option maxHeartbeats 800000 in
/-- AppendVector(b, 2, v) -/
theorem vec2 (w : World) (v : Value) (bs : List Int) (ao : Option Addr) (c : Nat) (zs : List Int) (n : Nat) (hn : zs.length = n) (B : Nat) (hown : Own w B 5 v bs) (hl : bs.length ≤ 549755813888) (hB : B ≤ w.heap.size)
    (hsrc : Src w ao zs) (hc : ao = none → c = 0) (hap : Apart ao zs v) (h255 : n ≤ 65535) :
    Calls Tryf.prog 21 #[v, .int .i64 2, .slice ao n c] w fun e w' => ∃ v', e = .returned v' ∧ Own w' B 5 v' (bs ++ ((n : Int) / 256) :: ((n : Int) % 256) :: zs) ∧ Ap w w' v v' := by
  obtain ⟨i0, hi, hz0, hz1, hz2⟩ := info_parts Tryf.info5
  have HN : Hid (zs.length = n) := hn
  have hd : decide ((65536 : Int) ≤ (n : Int)) = false := by rw [decide_eq_false_iff_not]; omega
  have hnI : (n : Int) ≤ 65535 := by omega
  clear hn h255
  go_enter Tryf.func21, Tryf.ntmps21
  go_wp2_with fail
  refine wp_loop_rounds 3 ?_
  rw [rounds_succ]
  go_wp2_with (at_builtin; refine wpList_append_ap _ rfl _ _ 22 rfl B 5 i0 Tryf.underlying22 hi hz0 hz1 hz2 v bs rfl (hown.alloc _) (some ⟨w.heap.size, 0, none⟩) 1 1 [(n : Int) / 256] rfl rfl (Src.litAt (by simp) rfl) (fun h => by cases h) (by simp; omega) (by simp; omega) ?_; intro v1 w1 ho ha)
  rw [rounds_succ]
  obtain ⟨hs1, ha1⟩ := Apart.step (hsrc.alloc _) hap ha
  have hA1 := (Ap.alloc w v _).trans ha
  have hsz := hA1.grown.size
  clear hsrc hap hown ha
  go_wp2_with (at_builtin; refine wpList_append_ap _ rfl _ _ 22 rfl B 5 i0 Tryf.underlying22 hi hz0 hz1 hz2 v1 _ rfl (ho.alloc _) (some ⟨w1.heap.size, 0, none⟩) 1 1 [(n : Int) % 256] rfl rfl (Src.litAt (by simp) rfl) (fun h => by cases h) (by simp; omega) (by simp; omega) ?_; intro v2 w2 ho2 ha2)
  rw [rounds_succ]
  obtain ⟨hs2, ha2'⟩ := Apart.step (hs1.alloc _) ha1 ha2
  have hA2 := hA1.trans ((Ap.alloc w1 v1 _).trans ha2)
  have hsz2 := hA2.grown.size
  clear hs1 ha1 ho ha2 hA1 hsz
  go_wp2_with (at_builtin; refine wpList_append_ap _ rfl _ _ 22 rfl B 5 i0 Tryf.underlying22 hi hz0 hz1 hz2 v2 _ rfl ho2 ao n c zs rfl HN.out.symm hs2 hc (by have := HN.out; simp; omega) (by omega) ?_; intro v3 w3 ho3 ha3)
  go_ret
  exact ⟨v3, rfl, by simpa using ho3, hA2.trans ha3⟩

theorem take_eq_succ {a b : List Int} {k : Nat} (ha : k < a.length) (hb : k < b.length) (h : a.take k = b.take k) (he : a.getD k 0 = b.getD k 0) : a.take (k + 1) = b.take (k + 1) := by
  have e1 := List.take_succ_eq_append_getElem ha
  have e2 := List.take_succ_eq_append_getElem hb
  rw [e1, e2, h]
  simp [ha, hb] at he
  rw [he]

theorem ne_of_getD {a b : List Int} {k : Nat} (he : ¬ a.getD k 0 = b.getD k 0) : a ≠ b := fun h => he (by rw [h])

theorem Src.at {w : World} {ao : Option Addr} {zs : List Int} (h : Src w ao zs) (hp : 0 < zs.length) : ∃ b off, ao = some ⟨b, off, none⟩ ∧ ∀ j, j < zs.length → w.cell? ⟨b, off + j, none⟩ = some (.int .u8 (zs.getD j 0)) := by
  cases ao with
  | none => have := h.1 rfl; subst this; simp at hp
  | some ad =>
    obtain ⟨b, off, rfl, hc⟩ := ints_at (h.2 ad rfl) hp
    exact ⟨b, off, rfl, hc⟩

theorem Src.drewN {w : World} {ao : Option Addr} {zs : List Int} (h : Src w ao zs) (q : Nat) : Src (w.drewN q) ao zs := h
theorem Own.drewN {w : World} {B : Nat} {e : TypeId} {v : Value} {bs : List Int} (h : Own w B e v bs) (q : Nat) : Own (w.drewN q) B e v bs := h

set_option maxRecDepth 100000 in
set_option maxHeartbeats 400000 in
/-- zzSameBytes(a, b) -/
theorem same_any (w : World) (ao bo : Option Addr) (c d : Nat) (xs ys : List Int) (n m : Nat) (hn : xs.length = n) (hm : ys.length = m) (hx : Src w ao xs) (hy : Src w bo ys) (hln : n ≤ 1099511627776) :
    Calls Tryf.prog 10 #[.slice ao n c, .slice bo m d] w fun e w' => e = .returned (.bool (decide (xs = ys))) ∧ ∃ q, w' = w.drewN q := by
  by_cases hnm : n = m
  · subst hnm
    have HX : Hid (xs.length = n) := hn
    have HY : Hid (ys.length = n) := hm
    clear hn hm
    go_enter Tryf.func10, Tryf.ntmps10
    go_wp2
    go_loopw [5] (fun i wr => ∃ k q : Nat, k ≤ n ∧ i = .int .i64 k ∧ Hid (xs.take k = ys.take k) ∧ wr = w.drewN q) (fun i _ => n - (intOf i).toNat)
    case atStart => exact ⟨0, 0, Nat.zero_le _, rfl, by show _ = _; simp, rfl⟩
    case round =>
      obtain ⟨k, q, hk, rfl, HT, rfl⟩ := hrel
      by_cases hlt : k < n
      · obtain ⟨b1, o1, rfl, hc1⟩ := hx.at (by rw [HX.out]; omega)
        obtain ⟨b2, o2, rfl, hc2⟩ := hy.at (by rw [HY.out]; omega)
        have hk1 := hc1 k (by rw [HX.out]; exact hlt)
        have hk2 := hc2 k (by rw [HY.out]; exact hlt)
        clear hc1 hc2 hx hy
        obtain ⟨x, hx⟩ : ∃ x, x = xs.getD k 0 := ⟨_, rfl⟩
        obtain ⟨y, hy⟩ : ∃ y, y = ys.getD k 0 := ⟨_, rfl⟩
        rw [← hx] at hk1
        rw [← hy] at hk2
        have GX : Hid (x = xs.getD k 0) := hx
        have GY : Hid (y = ys.getD k 0) := hy
        clear hx hy
        have hltI : (k : Int) < (n : Int) := by omega
        go_wp2
        go_quiet (fail)
        go_wp2
        · have hne : (x != y) = true := by assumption
          have hxy : xs ≠ ys := ne_of_getD (k := k) (by rw [← GX.out, ← GY.out]; simpa using hne)
          go_ret
          exact ⟨by simp [hxy], q + nq, by simp⟩
        · have heq : (x != y) = false := by assumption
          have hxy : xs.getD k 0 = ys.getD k 0 := by rw [← GX.out, ← GY.out]; simpa using heq
          go_roundw
          case rel => exact ⟨k + 1, q + nq, by omega, by go_num, take_eq_succ (by rw [HX.out]; exact hlt) (by rw [HY.out]; exact hlt) HT.out hxy, by simp⟩
          case measure => simp [intOf]; omega
      · go_wp2
        go_ret
        have hkn : k = n := by omega
        have hT := HT.out
        rw [hkn, List.take_of_length_le (by rw [HX.out]; exact Nat.le_refl _), List.take_of_length_le (by rw [HY.out]; exact Nat.le_refl _)] at hT
        exact ⟨by simp [hT], q, rfl⟩
  · have HX : Hid (xs ≠ ys) := by intro h; subst h; omega
    have hnm' : ¬ (n : Int) = (m : Int) := by omega
    clear hn hm
    go_enter Tryf.func10, Tryf.ntmps10
    go_wp2
    go_ret
    exact ⟨by simp [HX.out], 0, rfl⟩
end Go.Proofs.Qxb6613964aFmt
