import Derived.Test.Qxb6613925aProg
import Derived.WalkKit
import Derived.WalkSpells
import Derived.WalkLawsBesides
namespace Go.Proofs.Qxb6613925a
open Go.RowKit

/-- The modulus. -/
def PI : Int := 2305843009213693951

theorem ret_int {k : IntKind} {a b : Int} (h : a = b) : Ending.returned (.int k a) = .returned (.int k b) := by rw [h]

set_option maxRecDepth 10000 in
set_option maxHeartbeats 400000 in
/-- zzAddP(a, b) -/
theorem add_any (a b : Int) (w : World) (h0 : 0 ≤ a) (h1 : a < 2305843009213693951) (h2 : 0 ≤ b) (h3 : b < 2305843009213693951) :
    Calls Try.prog 10 #[.int .u64 a, .int .u64 b] w fun e w' => e = .returned (.int .u64 ((a + b) % PI)) ∧ w' = w := by
  by_cases hc : 2305843009213693951 ≤ a + b
  · go_enter Try.func10, Try.ntmps10
    go_wp2
    go_ret
    exact ⟨ret_int (by unfold PI; omega), rfl⟩
  · go_enter Try.func10, Try.ntmps10
    go_wp2
    go_ret
    exact ⟨ret_int (by unfold PI; omega), rfl⟩

set_option maxRecDepth 10000 in
set_option maxHeartbeats 400000 in
/-- zzSubP(a, b) -/
theorem sub_any (a b : Int) (w : World) (h0 : 0 ≤ a) (h1 : a < 2305843009213693951) (h2 : 0 ≤ b) (h3 : b < 2305843009213693951) :
    Calls Try.prog 8 #[.int .u64 a, .int .u64 b] w fun e w' => e = .returned (.int .u64 ((a - b) % PI)) ∧ w' = w := by
  by_cases hc : b ≤ a
  · go_enter Try.func8, Try.ntmps8
    go_wp2
    go_ret
    exact ⟨ret_int (by unfold PI; omega), rfl⟩
  · go_enter Try.func8, Try.ntmps8
    go_wp2
    go_ret
    exact ⟨ret_int (by unfold PI; omega), rfl⟩

theorem half (b : Int) (m : Nat) : b / 2 ^ (m + 1) = b / 2 ^ m / 2 := by
  rw [Int.pow_succ, Int.ediv_ediv_of_nonneg (Int.le_of_lt (Int.pow_pos (by decide)))]

/-- doubling: r = a q mod P -/
theorem dbl0 (a q q' : Int) (h : q = q' / 2) (hb : q' % 2 = 0) : (a * q % PI + a * q % PI) % PI = a * q' % PI := by
  rw [← Int.add_emod]
  have e : a * q + a * q = a * q' := by
    have : q' = q + q := by omega
    rw [this, Int.mul_add]
  rw [e]
theorem dbl1 (a q q' : Int) (h : q = q' / 2) (hb : q' % 2 = 1) : ((a * q % PI + a * q % PI) % PI + a) % PI = a * q' % PI := by
  rw [← Int.add_emod, Int.emod_add_emod]
  have e : a * q + a * q + a = a * q' := by
    have : q' = q + q + 1 := by omega
    rw [this, Int.mul_add, Int.mul_add, Int.mul_one]
  rw [e]

theorem pow61 : (2 : Int) ^ 61 = 2305843009213693952 := by decide +kernel
theorem pow64 : (2 : Int) ^ 64 = 18446744073709551616 := by decide +kernel
theorem emod_bd (x : Int) : 0 ≤ x % PI ∧ x % PI < 2305843009213693951 := ⟨Int.emod_nonneg _ (by decide), Int.emod_lt_of_pos _ (by decide)⟩

set_option maxRecDepth 10000 in
set_option maxHeartbeats 400000 in
/-- zzMulP(a, b) -/
theorem mul_any (a b : Int) (w : World) (h0 : 0 ≤ a) (h1 : a < 2305843009213693951) (h2 : 0 ≤ b) (h3 : b < 2305843009213693951) :
    Calls Try.prog 9 #[.int .u64 a, .int .u64 b] w fun e w' => e = .returned (.int .u64 (a * b % PI)) ∧ w' = w := by
  have hst : b / 2 ^ 61 = 0 := by rw [pow61]; exact Int.ediv_eq_zero_of_lt h2 (by omega)
  have HST : Hid (b / 2 ^ 61 = 0) := hst
  clear hst
  go_enter Try.func9, Try.ntmps9
  go_wp2
  go_loop [5, 6] (fun r i => ∃ j : Nat, j ≤ 61 ∧ i = .int .i64 ((j : Int) - 1) ∧ r = .int .u64 (a * (b / 2 ^ j) % PI)) (fun _ i => (intOf i + 1).toNat)
  case atStart => exact ⟨61, by omega, rfl, by rw [HST.out, Int.mul_zero]; rfl⟩
  case round =>
    obtain ⟨j, hj, rfl, rfl⟩ := hrel
    cases j with
    | zero =>
      go_wp2
      go_ret
      exact ⟨rfl, rfl⟩
    | succ m =>
      have e1 : ((m + 1 : Nat) : Int) - 1 = (m : Int) := by omega
      rw [e1]
      obtain ⟨r, hr⟩ : ∃ r, r = a * (b / 2 ^ (m + 1)) % PI := ⟨_, rfl⟩
      have hrb := emod_bd (a * (b / 2 ^ (m + 1)))
      rw [← hr] at hrb
      obtain ⟨hr0, hr1⟩ := hrb
      have HR : Hid (r = a * (b / 2 ^ (m + 1)) % PI) := hr
      rw [← hr]
      obtain ⟨t, ht⟩ : ∃ t, t = (r + r) % PI := ⟨_, rfl⟩
      have htb := emod_bd (r + r)
      rw [← ht] at htb
      obtain ⟨ht0, ht1⟩ := htb
      have HT : Hid (t = (r + r) % PI) := ht
      have hq0 : 0 ≤ b / 2 ^ m := Int.ediv_nonneg h2 (Int.le_of_lt (Int.pow_pos (by decide)))
      have hq1 : b / 2 ^ m ≤ b := Int.ediv_le_self _ h2
      have hand := and_one_u64 (b / 2 ^ m) hq0 (by omega)
      have HA : Hid _ := hand
      clear hr e1 hand
      go_wp2_with fail
      refine (add_any r r _ hr0 hr1 hr0 hr1).mono ?_
      rintro e w' ⟨rfl, rfl⟩
      rw [← ht]
      clear ht
      by_cases hbit : b / 2 ^ m % 2 = 1
      · have hbt : (bits BinOp.and IntKind.u64 (b / 2 ^ m) 1 == 1) = true := by rw [HA.out]; simpa using hbit
        have HB : Hid (b / 2 ^ m % 2 = 1) := hbit
        clear hbit
        go_wp2_with fail
        refine (add_any t a _ ht0 ht1 h0 h1).mono ?_
        rintro e w2 ⟨rfl, rfl⟩
        go_wp2
        go_round
        case rel => exact ⟨m, by omega, rfl, by rw [HT.out, HR.out]; rw [dbl1 a _ _ (half b m) HB.out]⟩
        case measure => simp [intOf]
      · have hbt : (bits BinOp.and IntKind.u64 (b / 2 ^ m) 1 == 1) = false := by rw [HA.out]; simpa using hbit
        have HB : Hid (b / 2 ^ m % 2 = 0) := by show _ = _; omega
        clear hbit
        go_wp2
        go_round
        case rel => exact ⟨m, by omega, rfl, by rw [HT.out, HR.out]; rw [dbl0 a _ _ (half b m) HB.out]⟩
        case measure => simp [intOf]

theorem ipow_add (a : Int) (m : Nat) : ∀ n, a ^ (m + n) = a ^ m * a ^ n
  | 0 => by simp
  | n + 1 => by rw [← Nat.add_assoc, Int.pow_succ, ipow_add a m n, Int.pow_succ, Int.mul_assoc]

theorem sq0 (a : Int) (q q' : Nat) (h : q = q' / 2) (hb : q' % 2 = 0) : (a ^ q % PI) * (a ^ q % PI) % PI = a ^ q' % PI := by
  rw [← Int.mul_emod, ← ipow_add]
  congr 2
  omega
theorem sq1 (a : Int) (q q' : Nat) (h : q = q' / 2) (hb : q' % 2 = 1) : ((a ^ q % PI) * (a ^ q % PI) % PI) * a % PI = a ^ q' % PI := by
  rw [← Int.mul_emod, Int.mul_emod (a ^ q * a ^ q % PI) a, Int.emod_emod, ← Int.mul_emod, ← ipow_add, ← Int.pow_succ]
  congr 2
  omega

theorem halfN (e m : Nat) : e / 2 ^ (m + 1) = e / 2 ^ m / 2 := by rw [Nat.pow_succ, Nat.div_div_eq_div_mul]
theorem castDiv (e m : Nat) : (e : Int) / 2 ^ m = ((e / 2 ^ m : Nat) : Int) := by
  rw [Int.natCast_ediv]
  simp

set_option maxRecDepth 10000 in
set_option maxHeartbeats 400000 in
/-- zzPowP(a, e) -/
theorem pow_any (a : Int) (e : Nat) (w : World) (h0 : 0 ≤ a) (h1 : a < 2305843009213693951) (h2 : e < 18446744073709551616) :
    Calls Try.prog 20 #[.int .u64 a, .int .u64 e] w fun x w' => x = .returned (.int .u64 (a ^ e % PI)) ∧ w' = w := by
  have HST : Hid (e / 2 ^ 64 = 0) := Nat.div_eq_of_lt (by exact h2)
  have h2I : (e : Int) < 18446744073709551616 := by omega
  clear h2
  go_enter Try.func20, Try.ntmps20
  go_wp2
  go_loop [5, 6] (fun r i => ∃ j : Nat, j ≤ 64 ∧ i = .int .i64 ((j : Int) - 1) ∧ r = .int .u64 (a ^ (e / 2 ^ j) % PI)) (fun _ i => (intOf i + 1).toNat)
  case atStart => exact ⟨64, by omega, rfl, by rw [HST.out, Int.pow_zero]; rfl⟩
  case round =>
    obtain ⟨j, hj, rfl, rfl⟩ := hrel
    cases j with
    | zero =>
      go_wp2
      go_ret
      exact ⟨by simp, rfl⟩
    | succ m =>
      have e1 : ((m + 1 : Nat) : Int) - 1 = (m : Int) := by omega
      rw [e1]
      obtain ⟨r, hr⟩ : ∃ r, r = a ^ (e / 2 ^ (m + 1)) % PI := ⟨_, rfl⟩
      have hrb := emod_bd (a ^ (e / 2 ^ (m + 1)))
      rw [← hr] at hrb
      obtain ⟨hr0, hr1⟩ := hrb
      have HR : Hid (r = a ^ (e / 2 ^ (m + 1)) % PI) := hr
      rw [← hr]
      obtain ⟨t, ht⟩ : ∃ t, t = r * r % PI := ⟨_, rfl⟩
      have htb := emod_bd (r * r)
      rw [← ht] at htb
      obtain ⟨ht0, ht1⟩ := htb
      have HT : Hid (t = r * r % PI) := ht
      have hq0 : 0 ≤ (e : Int) / 2 ^ m := Int.ediv_nonneg (by omega) (Int.le_of_lt (Int.pow_pos (by decide)))
      have hq1 : (e : Int) / 2 ^ m ≤ e := Int.ediv_le_self _ (by omega)
      have hand := and_one_u64 ((e : Int) / 2 ^ m) hq0 (by omega)
      have HA : Hid _ := hand
      have hcd := castDiv e m
      have HC : Hid _ := hcd
      clear hr e1 hand hcd
      go_wp2_with fail
      refine (mul_any r r _ hr0 hr1 hr0 hr1).mono ?_
      rintro x w' ⟨rfl, rfl⟩
      rw [← ht]
      clear ht
      by_cases hbit : e / 2 ^ m % 2 = 1
      · have hbt : (bits BinOp.and IntKind.u64 ((e : Int) / 2 ^ m) 1 == 1) = true := by
          have e3 : ((e / 2 ^ m : Nat) : Int) % 2 = 1 := by omega
          rw [HA.out, HC.out, e3]
          rfl
        have HB : Hid (e / 2 ^ m % 2 = 1) := hbit
        clear hbit
        go_wp2_with fail
        refine (mul_any t a _ ht0 ht1 h0 h1).mono ?_
        rintro x w2 ⟨rfl, rfl⟩
        go_wp2
        go_round
        case rel => exact ⟨m, by omega, rfl, by rw [HT.out, HR.out]; rw [sq1 a _ _ (halfN e m) HB.out]⟩
        case measure => simp [intOf]
      · have hbt : (bits BinOp.and IntKind.u64 ((e : Int) / 2 ^ m) 1 == 1) = false := by
          have e3 : ((e / 2 ^ m : Nat) : Int) % 2 = 0 := by omega
          rw [HA.out, HC.out, e3]
          rfl
        have HB : Hid (e / 2 ^ m % 2 = 0) := by show _ = _; omega
        clear hbit
        go_wp2
        go_round
        case rel => exact ⟨m, by omega, rfl, by rw [HT.out, HR.out]; rw [sq0 a _ _ (halfN e m) HB.out]⟩
        case measure => simp [intOf]

/-- P - 2 -/
def eInv : Nat := 2305843009213693949

set_option maxRecDepth 10000 in
set_option maxHeartbeats 400000 in
/-- zzInvP(a) -/
theorem inv_any (a : Int) (w : World) (h0 : 0 ≤ a) (h1 : a < 2305843009213693951) :
    Calls Try.prog 7 #[.int .u64 a] w fun x w' => x = .returned (.int .u64 (a ^ eInv % PI)) ∧ w' = w := by
  go_enter Try.func7, Try.ntmps7
  go_wp2_with fail
  refine (pow_any a eInv _ h0 h1 (by decide)).mono ?_
  rintro x w' ⟨rfl, rfl⟩
  go_wp2
  go_ret
  exact ⟨rfl, rfl⟩
end Go.Proofs.Qxb6613925a
