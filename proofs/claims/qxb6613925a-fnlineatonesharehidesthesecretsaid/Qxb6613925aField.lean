import Derived.Test.Qxb6613925aArith
import Derived.Shelf.Bits.Mul64
import Derived.Below
import Derived.Deep.RegionHeld3
namespace Go.Proofs.Qxb6613925a
open Go.RowKit

set_option maxRecDepth 10000 in
set_option maxHeartbeats 400000 in
/-- field.New(x) -/
theorem new_any (x : Int) (w : World) (h0 : 0 ≤ x) (h1 : x ≤ 18446744073709551615) :
    Calls Try.prog 19 #[.int .u64 x] w fun e w' => e = .returned (.agg #[.int .u64 (x % PI)]) ∧ Below w.heap.size w w' := by
  go_enter Try.func19, Try.ntmps19
  go_wp2
  exact bodyPost_ret (v := .agg #[.int .u64 (x % PI)]) (by simp [results, Try.results19, go_sem]; rfl) rfl ⟨rfl, (Below.refl _ _).alloc (Nat.le_refl _) _⟩

set_option maxRecDepth 10000 in
set_option maxHeartbeats 400000 in
/-- field.ZZValue(e) -/
theorem value_any (x : Int) (w : World) :
    Calls Try.prog 17 #[.agg #[.int .u64 x]] w fun e w' => e = .returned (.int .u64 x) ∧ Below w.heap.size w w' := by
  go_enter Try.func17, Try.ntmps17
  go_wp2
  go_ret
  exact ⟨rfl, (Below.refl _ _).alloc (Nat.le_refl _) _⟩

set_option maxRecDepth 10000 in
set_option maxHeartbeats 400000 in
/-- (Elem).Add -/
theorem fadd_any (a b : Int) (w : World) (h0 : 0 ≤ a) (h1 : a < 2305843009213693951) (h2 : 0 ≤ b) (h3 : b < 2305843009213693951) :
    Calls Try.prog 26 #[.agg #[.int .u64 a], .agg #[.int .u64 b]] w fun e w' => e = .returned (.agg #[.int .u64 ((a + b) % PI)]) ∧ Below w.heap.size w w' := by
  have hbl : ∀ (x y z : Obj), Below w.heap.size w (((w.alloc x).alloc y).alloc z) := fun x y z => (((Below.refl _ _).alloc (Nat.le_refl _) _).alloc (by simp) _).alloc (by simp; omega) _
  by_cases hc : 2305843009213693951 ≤ a + b
  · have e : (a + b) % PI = a + b - 2305843009213693951 := by unfold PI; omega
    have E : Hid _ := e
    clear e
    go_enter Try.func26, Try.ntmps26
    go_wp2
    exact bodyPost_ret (v := .agg #[.int .u64 (a + b - 2305843009213693951)]) (by simp [results, Try.results26, go_sem]) rfl ⟨by rw [E.out], hbl _ _ _⟩
  · have e : (a + b) % PI = a + b := by unfold PI; omega
    have E : Hid _ := e
    clear e
    go_enter Try.func26, Try.ntmps26
    go_wp2
    exact bodyPost_ret (v := .agg #[.int .u64 (a + b)]) (by simp [results, Try.results26, go_sem]) rfl ⟨by rw [E.out], hbl _ _ _⟩

/-- The shelf's numbering of math/bits.Mul64, at this dump. -/
def ren264 : Go.Shelf.Ren := ⟨fun | 264 => 29 | n => n, fun | 46 => 44 | 53 => 22 | n => n, fun n => n⟩
theorem lays264 : Lays.n264 Try.prog ren264 := { mixed := by kernel_rfl, f264 := by kernel_rfl, t46 := Try.underlying44, a46 := Try.isAgg44, z46 := Try.sizeOf44, v46 := Try.zeroValue44, t53 := Try.underlying22, a53 := Try.isAgg22, z53 := Try.sizeOf22, v53 := Try.zeroValue22 }
/-- bits.Mul64(x, y): the shelf's contract. -/
theorem mul64_any (x y : Nat) (hx : x < 18446744073709551616) (hy : y < 18446744073709551616) (w : World) :
    Calls Try.prog 29 #[.int .u64 x, .int .u64 y] w fun e w' => e = .returned (.tuple #[.int .u64 ((x * y / 18446744073709551616 : Nat) : Int), .int .u64 ((x * y % 18446744073709551616 : Nat) : Int)]) ∧ w' = w :=
  Any.bits_Mul64 lays264 x y hx hy w

/-! ### The reduction modulo 2^61 - 1 -/
theorem mask61 (a : Nat) (ha : a < 18446744073709551616) : bits .and .u64 (a : Int) 2305843009213693951 = ((a % 2305843009213693952 : Nat) : Int) := by
  have h := bits_and_u64_nat a 2305843009213693951 ha (by omega)
  have e : a &&& 2305843009213693951 = a % 2305843009213693952 := Nat.and_two_pow_sub_one_eq_mod a 61
  rw [e] at h
  exact h

theorem or8 (h l : Nat) (hh : h < 2305843009213693952) (hl : l < 8) : bits .or .u64 ((h : Int) * 8) (l : Int) = ((8 * h + l : Nat) : Int) := by
  have e := bits_or_u64_nat (8 * h) l (by omega) (by omega)
  have e2 : 8 * h ||| l = 8 * h + l := (Nat.two_pow_add_eq_or_of_lt (i := 3) hl h).symm
  rw [e2] at e
  rw [← e]
  congr 1
  omega

/-- the two halves' sum: N modulo 2^61 - 1 up to one subtraction -/
theorem fold61 (N : Nat) : (N % 2305843009213693952 + N / 2305843009213693952) % 2305843009213693951 = N % 2305843009213693951 := by
  have e : N = (N % 2305843009213693952 + N / 2305843009213693952) + 2305843009213693951 * (N / 2305843009213693952) := by omega
  conv => rhs; rw [e]
  rw [Nat.add_mul_mod_self_left]

set_option maxRecDepth 10000 in
set_option maxHeartbeats 400000 in
/-- (Elem).Mul -/
theorem fmul_nat (x y : Nat) (w : World) (hx : x < 2305843009213693951) (hy : y < 2305843009213693951) :
    Calls Try.prog 27 #[.agg #[.int .u64 (x : Int)], .agg #[.int .u64 (y : Int)]] w fun e w' => e = .returned (.agg #[.int .u64 ((x * y % 2305843009213693951 : Nat) : Int)]) ∧ Below w.heap.size w w' := by
  have hbl : ∀ (x y z : Obj), Below w.heap.size w (((w.alloc x).alloc y).alloc z) := fun x y z => (((Below.refl _ _).alloc (Nat.le_refl _) _).alloc (by simp) _).alloc (by simp; omega) _
  have hN : x * y ≤ 2305843009213693950 * 2305843009213693950 := Nat.mul_le_mul (by omega) (by omega)
  have hm := fun wx => mul64_any x y (by omega) (by omega) wx
  have HM : Hid (∀ wx, Calls Try.prog 29 #[.int .u64 (x : Int), .int .u64 (y : Int)] wx fun e w' => e = .returned (.tuple #[.int .u64 ((x * y / 18446744073709551616 : Nat) : Int), .int .u64 ((x * y % 18446744073709551616 : Nat) : Int)]) ∧ w' = wx) := hm
  have hf := fold61 (x * y)
  generalize x * y = N at HM hN hf ⊢
  obtain ⟨h, hh⟩ : ∃ h, h = N / 18446744073709551616 := ⟨_, rfl⟩
  obtain ⟨l, hl⟩ : ∃ l, l = N % 18446744073709551616 := ⟨_, rfl⟩
  rw [← hh, ← hl] at HM
  have l1 : l < 18446744073709551616 := by omega
  have h1 : h < 288230376151711744 := by omega
  obtain ⟨u, hu⟩ : ∃ u, u = l % 2305843009213693952 := ⟨_, rfl⟩
  obtain ⟨v, hv⟩ : ∃ v, v = 8 * h + l / 2305843009213693952 := ⟨_, rfl⟩
  have hand := mask61 l l1
  rw [← hu] at hand
  have hor : bits .or .u64 ((h : Int) * 8) ((l : Int) / 2305843009213693952) = (v : Int) := by
    have := or8 h (l / 2305843009213693952) (by omega) (by omega)
    rw [← hv] at this
    rw [← this]
    congr 1
  have huv : (u + v) % 2305843009213693951 = N % 2305843009213693951 := by
    have e1 : u = N % 2305843009213693952 := by omega
    have e2 : v = N / 2305843009213693952 := by omega
    rw [e1, e2]
    exact hf
  have hl2 : (l : Int) < 18446744073709551616 := by omega
  have hh2 : (h : Int) < 288230376151711744 := by omega
  have hub : (u : Int) < 2305843009213693952 := by omega
  have hvb : (v : Int) < 2305843009213693950 := by omega
  have HUV : Hid ((u + v) % 2305843009213693951 = N % 2305843009213693951) := huv
  clear hm hx hy hu hv hh hl l1 h1 hf hN huv
  by_cases hc : 2305843009213693951 ≤ (u : Int) + (v : Int)
  · have E : Hid (((N % 2305843009213693951 : Nat) : Int) = (u : Int) + (v : Int) - 2305843009213693951) := by show _ = _; rw [← HUV.out]; omega
    clear HUV
    go_enter Try.func27, Try.ntmps27
    go_wp2_with fail
    refine Calls.mono (HM.out _) ?_
    rintro e w' ⟨rfl, rfl⟩
    go_wp2_with fail
    exact bodyPost_ret (v := .agg #[.int .u64 ((u : Int) + (v : Int) - 2305843009213693951)]) (by simp [results, Try.results27, go_sem]) rfl ⟨by rw [E.out], hbl _ _ _⟩
  · have E : Hid (((N % 2305843009213693951 : Nat) : Int) = (u : Int) + (v : Int)) := by show _ = _; rw [← HUV.out]; omega
    have hd : decide ((2305843009213693951 : Int) ≤ (u : Int) + (v : Int)) = false := by rw [decide_eq_false_iff_not]; exact hc
    have hc2 : (u : Int) + (v : Int) ≤ 2305843009213693950 := by omega
    clear hc
    clear HUV
    go_enter Try.func27, Try.ntmps27
    go_wp2_with fail
    refine Calls.mono (HM.out _) ?_
    rintro e w' ⟨rfl, rfl⟩
    go_wp2_with fail
    exact bodyPost_ret (v := .agg #[.int .u64 ((u : Int) + (v : Int))]) (by simp [results, Try.results27, go_sem]) rfl ⟨by rw [E.out], hbl _ _ _⟩

theorem fmul_any (a b : Int) (w : World) (h0 : 0 ≤ a) (h1 : a < 2305843009213693951) (h2 : 0 ≤ b) (h3 : b < 2305843009213693951) :
    Calls Try.prog 27 #[.agg #[.int .u64 a], .agg #[.int .u64 b]] w fun e w' => e = .returned (.agg #[.int .u64 (a * b % PI)]) ∧ Below w.heap.size w w' := by
  obtain ⟨x, rfl⟩ := Int.eq_ofNat_of_zero_le h0
  obtain ⟨y, rfl⟩ := Int.eq_ofNat_of_zero_le h2
  have h := fmul_nat x y w (by omega) (by omega)
  have e : ((x * y % 2305843009213693951 : Nat) : Int) = (x : Int) * (y : Int) % PI := by
    rw [Int.natCast_emod, Int.natCast_mul]
    rfl
  rw [e] at h
  exact h
end Go.Proofs.Qxb6613925a
