import Derived.Test.Qxb6613909aIs
namespace Go.Proofs.Qxb6613909a
open Go.RowKit

set_option maxRecDepth 10000 in
set_option maxHeartbeats 400000 in
/-- ZZIsThroughShown(p, p) -/
theorem through_same (b : Addr) (w : World) :
    Calls Try.prog 10 #[.pointer (some b), .pointer (some b)] w fun e w' => e = .returned (.bool true) ∧ w' = w.alloc (.cells #[.iface 28 (.pointer (some b))] 41) := by
  go_enter Try.func10, Try.ntmps10
  go_wp2_with fail
  refine (is_wrap_same b w).mono ?_
  rintro e w' ⟨rfl, rfl⟩
  go_wp2
  go_ret
  exact ⟨rfl, rfl⟩

set_option maxRecDepth 10000 in
set_option maxHeartbeats 400000 in
/-- ZZIsThroughShown(p, q), p and q apart -/
theorem through_other (a b : Addr) (ca cb : Array Value) (ta tb : TypeId) (w : World) (hne : a ≠ b) (ha : w.heap[a.block]? = some (.cells ca ta (0, 0))) (hb : w.heap[b.block]? = some (.cells cb tb (0, 0))) :
    Calls Try.prog 10 #[.pointer (some a), .pointer (some b)] w fun e w' => e = .returned (.bool false) ∧ w' = w.alloc (.cells #[.iface 28 (.pointer (some a))] 41) := by
  have HA : Hid (w.heap[a.block]? = some (.cells ca ta (0, 0))) := ha
  have HB : Hid (w.heap[b.block]? = some (.cells cb tb (0, 0))) := hb
  clear ha hb
  go_enter Try.func10, Try.ntmps10
  go_wp2_with fail
  refine (is_wrap_other a b ca cb ta tb w hne HA.out HB.out).mono ?_
  rintro e w' ⟨rfl, rfl⟩
  go_wp2
  go_ret
  exact ⟨rfl, rfl⟩

set_option maxRecDepth 10000 in
set_option maxHeartbeats 1000000 in
theorem bytes9 (w : World) (a b c d : ByteArray) (h0 : a.size ≤ maxLen) (h1 : b.size ≤ maxLen) (h2 : c.size ≤ maxLen) (h3 : d.size ≤ maxLen) :
    Calls Try.prog 9 #[.string a, .string b, .string c, .string d] w fun e w' => ∃ r, e = .returned (.bool r) ∧ w' = w := by
  unfold maxLen at h0 h1 h2 h3
  go_enter Try.func9, Try.ntmps9
  go_wp2
  all_goals (go_ret; exact ⟨_, rfl, rfl⟩)

/-- The first and the second of three new blocks. -/
theorem World.drop3 (w : World) (x y z : Obj) : (((w.alloc x).alloc y).alloc z).heap[w.heap.size]? = some x := by
  show (((w.heap.push x).push y).push z)[w.heap.size]? = some x
  rw [Array.getElem?_push, if_neg (by simp <;> omega), Array.getElem?_push, if_neg (by simp)]
  simp
theorem World.drop3' (w : World) (x y z : Obj) : (((w.alloc x).alloc y).alloc z).heap[w.heap.size + 1]? = some y := by
  show (((w.heap.push x).push y).push z)[w.heap.size + 1]? = some y
  rw [Array.getElem?_push, if_neg (by simp), Array.getElem?_push, if_pos (by simp)]

set_option maxRecDepth 10000 in
set_option maxHeartbeats 1000000 in
theorem shown_walk (w : World) (a b c d : ByteArray) (h0 : a.size ≤ maxLen) (h1 : b.size ≤ maxLen) (h2 : c.size ≤ maxLen) (h3 : d.size ≤ maxLen)
    (m0 : a.size ≤ 262144) (m1 : b.size ≤ 262144) (m2 : c.size ≤ 262144) (m3 : d.size ≤ 262144) :
    Calls Try.prog 4 #[.string a, .string b, .string c, .string d] w fun e w' => e = .returned (.bool true) ∧ Grown w w' := by
  have d0 : decide ((262144 : Int) < (a.size : Int)) = false := by rw [decide_eq_false_iff_not]; omega
  have d1 : decide ((262144 : Int) < (b.size : Int)) = false := by rw [decide_eq_false_iff_not]; omega
  have d2 : decide ((262144 : Int) < (c.size : Int)) = false := by rw [decide_eq_false_iff_not]; omega
  have d3 : decide ((262144 : Int) < (d.size : Int)) = false := by rw [decide_eq_false_iff_not]; omega
  clear m0 m1 m2 m3
  go_enter Try.func4, Try.ntmps4
  go_wp2_with fail
  refine (bytes9 w a b c d h0 h1 h2 h3).mono ?_
  rintro e w' ⟨r, rfl, rfl⟩
  cases r with
  | false =>
    go_wp2
    go_ret
    exact ⟨rfl, Grown.refl _⟩
  | true =>
    go_wp2_with fail
    refine (through_same _ _).mono ?_
    rintro e w1 ⟨rfl, rfl⟩
    go_wp2_with fail
    refine (through_other _ _ #[.string a, .string b] #[.string c, .string d] 30 30 _ (by simp) (by rw [World.drop3 w' _ _ _]) (by rw [World.drop3' w' _ _ _])).mono ?_
    rintro e w2 ⟨rfl, rfl⟩
    go_wp2
    go_ret
    exact ⟨rfl, by repeat (first | exact Grown.refl _ | apply Grown.drew | apply Grown.alloc)⟩

set_option maxRecDepth 10000 in
set_option maxHeartbeats 1000000 in
theorem shown_out (w : World) (a b c d : ByteArray) (h0 : a.size ≤ maxLen) (h1 : b.size ≤ maxLen) (h2 : c.size ≤ maxLen) (h3 : d.size ≤ maxLen)
    (hm : ¬ (a.size ≤ 262144 ∧ b.size ≤ 262144 ∧ c.size ≤ 262144 ∧ d.size ≤ 262144)) :
    Calls Try.prog 4 #[.string a, .string b, .string c, .string d] w fun e w' => e = .returned (.bool true) ∧ Grown w w' := by
  have t1 : ∀ n : Nat, 262144 < n → decide ((262144 : Int) < (n : Int)) = true := fun n h => by rw [decide_eq_true_iff]; omega
  have f1 : ∀ n : Nat, ¬ 262144 < n → decide ((262144 : Int) < (n : Int)) = false := fun n h => by rw [decide_eq_false_iff_not]; omega
  by_cases k0 : 262144 < a.size
  · have d0 := t1 _ k0
    clear t1 f1 hm k0
    go_enter Try.func4, Try.ntmps4
    go_wp2_with fail
    refine (bytes9 w a b c d h0 h1 h2 h3).mono ?_
    rintro e w' ⟨r, rfl, rfl⟩
    cases r
    all_goals
      go_wp2
      go_ret
      exact ⟨rfl, Grown.refl _⟩
  · have d0 := f1 _ k0
    by_cases k1 : 262144 < b.size
    · have d1 := t1 _ k1
      clear t1 f1 hm k0 k1
      go_enter Try.func4, Try.ntmps4
      go_wp2_with fail
      refine (bytes9 w a b c d h0 h1 h2 h3).mono ?_
      rintro e w' ⟨r, rfl, rfl⟩
      cases r
      all_goals
        go_wp2
        go_ret
        exact ⟨rfl, Grown.refl _⟩
    · have d1 := f1 _ k1
      by_cases k2 : 262144 < c.size
      · have d2 := t1 _ k2
        clear t1 f1 hm k0 k1 k2
        go_enter Try.func4, Try.ntmps4
        go_wp2_with fail
        refine (bytes9 w a b c d h0 h1 h2 h3).mono ?_
        rintro e w' ⟨r, rfl, rfl⟩
        cases r
        all_goals
          go_wp2
          go_ret
          exact ⟨rfl, Grown.refl _⟩
      · have d2 := f1 _ k2
        have d3 := t1 d.size (by omega)
        clear t1 f1 hm k0 k1 k2
        go_enter Try.func4, Try.ntmps4
        go_wp2_with fail
        refine (bytes9 w a b c d h0 h1 h2 h3).mono ?_
        rintro e w' ⟨r, rfl, rfl⟩
        cases r
        all_goals
          go_wp2
          go_ret
          exact ⟨rfl, Grown.refl _⟩
end Go.Proofs.Qxb6613909a
