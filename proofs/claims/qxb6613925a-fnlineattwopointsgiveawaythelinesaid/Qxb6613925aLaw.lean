import Derived.Test.Qxb6613925aArith
import Derived.Test.Qxb6613925aPrime
/-! THE PLAIN LAW: two points of a line modulo P give it away, one point hides the secret; no Go in sight. -/
namespace Go.Proofs.Qxb6613925a
set_option linter.unusedSimpArgs false

/-- Equality modulo P. -/
def Eqm (a b : Int) : Prop := a % PI = b % PI
theorem Eqm.rfl' (a : Int) : Eqm a a := rfl
theorem Eqm.symm {a b : Int} (h : Eqm a b) : Eqm b a := Eq.symm h
theorem Eqm.trans {a b c : Int} (h : Eqm a b) (k : Eqm b c) : Eqm a c := Eq.trans h k
theorem Eqm.of {a b : Int} (h : a = b) : Eqm a b := by rw [h]; exact rfl
theorem Eqm.md (a : Int) : Eqm (a % PI) a := Int.emod_emod_of_dvd a (Int.dvd_refl _)
theorem Eqm.add {a b c d : Int} (h : Eqm a b) (k : Eqm c d) : Eqm (a + c) (b + d) := by
  unfold Eqm at *; rw [Int.add_emod, h, k, ← Int.add_emod]
theorem Eqm.mul {a b c d : Int} (h : Eqm a b) (k : Eqm c d) : Eqm (a * c) (b * d) := by
  unfold Eqm at *; rw [Int.mul_emod, h, k, ← Int.mul_emod]
theorem Eqm.sub {a b c d : Int} (h : Eqm a b) (k : Eqm c d) : Eqm (a - c) (b - d) := by
  unfold Eqm at *; rw [Int.sub_emod, h, k, ← Int.sub_emod]
/-- two numbers below P that agree modulo P are one -/
theorem Eqm.eq {a b : Int} (h : Eqm a b) (h0 : 0 ≤ a) (h1 : a < 2305843009213693951) (h2 : 0 ≤ b) (h3 : b < 2305843009213693951) : a = b := by
  unfold Eqm PI at h
  omega

/-- d d^(P-2) = 1 modulo P -/
theorem inv_law (d : Int) (h0 : 0 < d) (h1 : d < 2305843009213693951) : Eqm (d * (d ^ eInv % PI)) 1 := by
  obtain ⟨n, rfl⟩ : ∃ n : Nat, d = n := ⟨d.toNat, by omega⟩
  have q := NT.inv_mod n (by omega) (by show n < 2305843009213693951; omega)
  refine Eqm.trans (Eqm.mul (Eqm.rfl' _) (Eqm.md _)) ?_
  have e : NT.P - 2 = eInv := rfl
  rw [e] at q
  have c : ((n * n ^ eInv % NT.P : Nat) : Int) = ((1 : Nat) : Int) := by rw [q]
  rw [Int.natCast_emod, Int.natCast_mul, Int.natCast_pow] at c
  exact c

/-- the difference of two residues that part is a residue other than 0 -/
theorem diff_law (a b : Int) (h0 : 0 ≤ a) (h1 : a < 2305843009213693951) (h2 : 0 ≤ b) (h3 : b < 2305843009213693951) (ne : a ≠ b) : 0 < (b - a) % PI := by
  unfold PI
  omega

/-- THE SLOPE AND THE SECRET OF TWO POINTS -/
theorem two_law (s m a b d y1 y2 : Int) (hd : Eqm ((b - a) * d) 1) (e1 : Eqm y1 (s + m * a)) (e2 : Eqm y2 (s + m * b)) :
    Eqm ((y2 - y1) * d) m ∧ Eqm ((y1 * b - y2 * a) * d) s := by
  constructor
  · have k : Eqm ((y2 - y1) * d) (((s + m * b) - (s + m * a)) * d) := (e2.sub e1).mul (Eqm.rfl' _)
    have f : ((s + m * b) - (s + m * a)) * d = m * ((b - a) * d) := by simp only [Int.add_mul, Int.sub_mul, Int.mul_add, Int.mul_sub, Int.mul_assoc, Int.mul_comm, Int.mul_left_comm, Int.mul_one]; omega
    rw [f] at k
    have k2 := k.trans ((Eqm.rfl' m).mul hd)
    rwa [Int.mul_one] at k2
  · have k : Eqm ((y1 * b - y2 * a) * d) (((s + m * a) * b - (s + m * b) * a) * d) := ((e1.mul (Eqm.rfl' _)).sub (e2.mul (Eqm.rfl' _))).mul (Eqm.rfl' _)
    have f : ((s + m * a) * b - (s + m * b) * a) * d = s * ((b - a) * d) := by simp only [Int.add_mul, Int.sub_mul, Int.mul_add, Int.mul_sub, Int.mul_assoc, Int.mul_comm, Int.mul_left_comm, Int.mul_one]; omega
    rw [f] at k
    have k2 := k.trans ((Eqm.rfl' s).mul hd)
    rwa [Int.mul_one] at k2

/-- ANOTHER SECRET WITH THE SLOPE THAT MAKES THE SAME SHARE -/
theorem one_law (s m t x i m2 : Int) (hi : Eqm (x * i) 1) (hm : Eqm m2 (m + (s - t) * i)) : Eqm (t + m2 * x) (s + m * x) := by
  have k : Eqm (t + m2 * x) (t + (m + (s - t) * i) * x) := (Eqm.rfl' _).add (hm.mul (Eqm.rfl' _))
  have f : t + (m + (s - t) * i) * x = (t + m * x) + (s - t) * (x * i) := by simp only [Int.add_mul, Int.sub_mul, Int.mul_add, Int.mul_sub, Int.mul_assoc, Int.mul_comm, Int.mul_left_comm, Int.mul_one]; omega
  rw [f] at k
  have k2 := k.trans ((Eqm.rfl' (t + m * x)).add ((Eqm.rfl' (s - t)).mul hi))
  have g : t + m * x + (s - t) * 1 = s + m * x := by simp only [Int.add_mul, Int.sub_mul, Int.mul_add, Int.mul_sub, Int.mul_assoc, Int.mul_comm, Int.mul_left_comm, Int.mul_one]; omega
  rwa [g] at k2
end Go.Proofs.Qxb6613925a
