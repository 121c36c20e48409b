import Derived.KernelRfl
namespace Go.Proofs.Qxb6613925a
namespace NT

/-! ### Sums, binomial coefficients -/
def sum (f : Nat → Nat) : Nat → Nat
  | 0 => 0
  | n + 1 => sum f n + f n

theorem sum_congr (f g : Nat → Nat) : ∀ n, (∀ k, k < n → f k = g k) → sum f n = sum g n
  | 0, _ => rfl
  | n + 1, h => by simp only [sum]; rw [sum_congr f g n (fun k hk => h k (by omega)), h n (by omega)]

theorem sum_add (f g : Nat → Nat) : ∀ n, sum (fun k => f k + g k) n = sum f n + sum g n
  | 0 => rfl
  | n + 1 => by simp only [sum]; rw [sum_add f g n]; omega

theorem sum_mul (c : Nat) (f : Nat → Nat) : ∀ n, sum (fun k => c * f k) n = c * sum f n
  | 0 => rfl
  | n + 1 => by simp only [sum]; rw [sum_mul c f n, Nat.mul_add]

theorem sum_shift (f : Nat → Nat) : ∀ n, sum f (n + 1) = f 0 + sum (fun k => f (k + 1)) n
  | 0 => by simp [sum]
  | n + 1 => by
    have ih := sum_shift f n
    simp only [sum] at ih ⊢
    omega

theorem sum_dvd (p : Nat) (f : Nat → Nat) : ∀ n, (∀ k, k < n → p ∣ f k) → p ∣ sum f n
  | 0, _ => ⟨0, rfl⟩
  | n + 1, h => Nat.dvd_add (sum_dvd p f n (fun k hk => h k (by omega))) (h n (by omega))

def ch : Nat → Nat → Nat
  | _, 0 => 1
  | 0, _ + 1 => 0
  | n + 1, k + 1 => ch n k + ch n (k + 1)

theorem ch_zero (n : Nat) : ch n 0 = 1 := by cases n <;> rfl
theorem ch_succ (n k : Nat) : ch (n + 1) (k + 1) = ch n k + ch n (k + 1) := rfl
theorem ch_big : ∀ n k, n < k → ch n k = 0
  | 0, 0, h => by omega
  | 0, _ + 1, _ => rfl
  | _ + 1, 0, h => by omega
  | n + 1, k + 1, h => by rw [ch_succ, ch_big n k (by omega), ch_big n (k + 1) (by omega)]
theorem ch_self : ∀ n, ch n n = 1
  | 0 => rfl
  | n + 1 => by rw [ch_succ, ch_self n, ch_big n (n + 1) (by omega)]

/-- (k+1) C(n+1,k+1) = (n+1) C(n,k) -/
theorem ch_absorb : ∀ n k, (k + 1) * ch (n + 1) (k + 1) = (n + 1) * ch n k
  | 0, 0 => rfl
  | 0, k + 1 => by
    rw [ch_succ, ch_big 0 (k + 1) (by omega), ch_big 0 (k + 2) (by omega)]
    simp
  | n + 1, 0 => by
    have ih := ch_absorb n 0
    rw [ch_zero] at ih ⊢
    rw [ch_succ, ch_zero]
    omega
  | n + 1, k + 1 => by
    have h1 := ch_absorb n k
    have h2 := ch_absorb n (k + 1)
    rw [ch_succ (n + 1) (k + 1)]
    have e : ch (n + 1) (k + 1) = ch n k + ch n (k + 1) := ch_succ n k
    have g1 : (k + 1 + 1) * (ch (n + 1) (k + 1) + ch (n + 1) (k + 1 + 1)) = (k + 1) * ch (n + 1) (k + 1) + ch (n + 1) (k + 1) + (k + 1 + 1) * ch (n + 1) (k + 1 + 1) := by
      rw [Nat.mul_add, Nat.add_mul (k + 1) 1 (ch (n + 1) (k + 1)), Nat.one_mul]
    have g2 : (n + 1 + 1) * ch (n + 1) (k + 1) = (n + 1) * ch (n + 1) (k + 1) + ch (n + 1) (k + 1) := by
      rw [Nat.add_mul (n + 1) 1, Nat.one_mul]
    have g3 : (n + 1) * ch (n + 1) (k + 1) = (n + 1) * ch n k + (n + 1) * ch n (k + 1) := by rw [e, Nat.mul_add]
    omega

theorem binom (a : Nat) : ∀ n, (a + 1) ^ n = sum (fun k => ch n k * a ^ k) (n + 1)
  | 0 => by simp [sum, ch]
  | n + 1 => by
    have ih := binom a n
    rw [sum_shift]
    have e1 : sum (fun k => ch (n + 1) (k + 1) * a ^ (k + 1)) (n + 1) = sum (fun k => a * (ch n k * a ^ k)) (n + 1) + sum (fun k => ch n (k + 1) * a ^ (k + 1)) (n + 1) := by
      rw [← sum_add]
      apply sum_congr
      intro k _
      rw [ch_succ, Nat.add_mul, Nat.pow_succ, ← Nat.mul_assoc, Nat.mul_comm (ch n k * a ^ k) a]
    have e2 : sum (fun k => ch n k * a ^ k) (n + 1 + 1) = ch n 0 * a ^ 0 + sum (fun k => ch n (k + 1) * a ^ (k + 1)) (n + 1) := sum_shift _ _
    have e3 : sum (fun k => ch n k * a ^ k) (n + 1 + 1) = sum (fun k => ch n k * a ^ k) (n + 1) := by
      show sum (fun k => ch n k * a ^ k) (n + 1) + ch n (n + 1) * a ^ (n + 1) = _
      rw [ch_big n (n + 1) (by omega)]
      simp
    have e4 : (a + 1) ^ (n + 1) = a * (a + 1) ^ n + (a + 1) ^ n := by rw [Nat.pow_succ, Nat.mul_comm, Nat.add_mul, Nat.one_mul]
    rw [e1, sum_mul, e4, ih, ch_zero] 
    rw [ch_zero] at e2
    omega

/-! ### Primes -/
def Pr (p : Nat) : Prop := 2 ≤ p ∧ ∀ m, m ∣ p → m = 1 ∨ m = p

theorem Pr.coprime {p n : Nat} (hp : Pr p) (h : ¬ p ∣ n) : Nat.Coprime p n := by
  rcases hp.2 (Nat.gcd p n) (Nat.gcd_dvd_left p n) with e | e
  · exact e
  · exact absurd (e ▸ Nat.gcd_dvd_right p n) h

theorem Pr.dvd_ch {p k : Nat} (hp : Pr p) (hk : k + 1 < p) : p ∣ ch p (k + 1) := by
  obtain ⟨n, rfl⟩ : ∃ n, p = n + 1 := ⟨p - 1, by have := hp.1; omega⟩
  have h : (n + 1) ∣ (k + 1) * ch (n + 1) (k + 1) := ⟨ch n k, ch_absorb n k⟩
  have hc : Nat.Coprime (n + 1) (k + 1) := hp.coprime (fun hd => by have := Nat.le_of_dvd (by omega) hd; omega)
  exact hc.dvd_of_dvd_mul_left h

/-- Fermat: a^p ≡ a -/
theorem Pr.fermat {p : Nat} (hp : Pr p) : ∀ a, a ^ p % p = a % p
  | 0 => by
    have := hp.1
    rw [Nat.zero_pow (by omega)]
  | a + 1 => by
    have ih := Pr.fermat hp a
    obtain ⟨n, rfl⟩ : ∃ n, p = n + 1 := ⟨p - 1, by have := hp.1; omega⟩
    have hb := binom a (n + 1)
    have e1 : sum (fun k => ch (n + 1) k * a ^ k) (n + 1 + 1) = sum (fun k => ch (n + 1) k * a ^ k) (n + 1) + ch (n + 1) (n + 1) * a ^ (n + 1) := rfl
    rw [sum_shift, ch_self, Nat.one_mul, ch_zero] at e1
    have hd : (n + 1) ∣ sum (fun k => ch (n + 1) (k + 1) * a ^ (k + 1)) n := sum_dvd _ _ _ (fun k hk => Nat.dvd_mul_right_of_dvd (hp.dvd_ch (by omega)) _)
    have e2 : sum (fun k => ch (n + 1) k * a ^ k) (n + 1) = 1 + sum (fun k => ch (n + 1) (k + 1) * a ^ (k + 1)) n := by
      rw [sum_shift, ch_zero]
      simp
    obtain ⟨c, hc⟩ := hd
    have e3 : (a + 1) ^ (n + 1) = 1 + (n + 1) * c + a ^ (n + 1) := by
      rw [hb]
      show sum (fun k => ch (n + 1) k * a ^ k) (n + 1) + ch (n + 1) (n + 1) * a ^ (n + 1) = _
      rw [e2, hc, ch_self, Nat.one_mul]
    rw [e3]
    rw [show 1 + (n + 1) * c + a ^ (n + 1) = (a ^ (n + 1) + 1) + (n + 1) * c by omega, Nat.add_mul_mod_self_left, Nat.add_mod, ih, ← Nat.add_mod]

theorem Pr.fermat1 {p a : Nat} (hp : Pr p) (ha : ¬ p ∣ a) : a ^ (p - 1) % p = 1 := by
  have h := hp.fermat a
  have h2 := hp.1
  obtain ⟨n, rfl⟩ : ∃ n, p = n + 1 := ⟨p - 1, by omega⟩
  have hpos : 1 ≤ a ^ n := Nat.one_le_iff_ne_zero.2 (fun e => by
    have : a = 0 := by
      rcases Nat.eq_zero_or_pos a with h0 | h0
      · exact h0
      · have := Nat.pow_pos (n := n) h0; omega
    exact ha (this ▸ Nat.dvd_zero _))
  have hd : (n + 1) ∣ a * (a ^ n - 1) := by
    have e : a * (a ^ n - 1) = a ^ (n + 1) - a := by rw [Nat.mul_sub, Nat.mul_one, Nat.pow_succ, Nat.mul_comm]
    rw [e]
    exact Nat.dvd_of_mod_eq_zero (Nat.sub_mod_eq_zero_of_mod_eq h)
  have hc := (hp.coprime ha).dvd_of_dvd_mul_left hd
  obtain ⟨c, hc⟩ := hc
  have e2 : a ^ n = 1 + (n + 1) * c := by omega
  rw [Nat.add_sub_cancel, e2, Nat.add_mul_mod_self_left]
  exact Nat.mod_eq_of_lt (by omega)

/-! ### A prime factor; a power that is 1 -/
theorem exists_prime : ∀ n, 2 ≤ n → ∃ r, Pr r ∧ r ∣ n := by
  intro n
  induction n using Nat.strongRecOn with
  | _ n ih =>
    intro h2
    by_cases hp : Pr n
    · exact ⟨n, hp, Nat.dvd_refl n⟩
    · have : ∃ m, m ∣ n ∧ m ≠ 1 ∧ m ≠ n := by
        apply Classical.byContradiction
        intro hne
        apply hp
        refine ⟨h2, fun m hm => ?_⟩
        by_cases h1 : m = 1
        · exact .inl h1
        · by_cases h3 : m = n
          · exact .inr h3
          · exact absurd ⟨m, hm, h1, h3⟩ hne
      obtain ⟨m, hm, h1, h3⟩ := this
      have hle := Nat.le_of_dvd (by omega) hm
      have hpos := Nat.pos_of_dvd_of_pos hm (by omega)
      obtain ⟨r, hr, hd⟩ := ih m (by omega) (by omega)
      exact ⟨r, hr, Nat.dvd_trans hd hm⟩

/-- If n is not prime, some prime r divides it with r*r ≤ n. -/
theorem small_prime {n : Nat} (h2 : 2 ≤ n) (hp : ¬ Pr n) : ∃ r, Pr r ∧ r ∣ n ∧ r * r ≤ n := by
  have : ∃ m, m ∣ n ∧ m ≠ 1 ∧ m ≠ n := by
    apply Classical.byContradiction
    intro hne
    apply hp
    refine ⟨h2, fun m hm => ?_⟩
    by_cases h1 : m = 1
    · exact .inl h1
    · by_cases h3 : m = n
      · exact .inr h3
      · exact absurd ⟨m, hm, h1, h3⟩ hne
  obtain ⟨m, ⟨k, hk⟩, h1, h3⟩ := this
  have hm0 : m ≠ 0 := fun e => by subst e; simp at hk; omega
  have hk0 : k ≠ 0 := fun e => by subst e; simp at hk; omega
  have hk1 : k ≠ 1 := fun e => by subst e; simp at hk; omega
  rcases Nat.le_total m k with h | h
  · obtain ⟨r, hr, hd⟩ := exists_prime m (by omega)
    have hle := Nat.le_of_dvd (by omega) hd
    exact ⟨r, hr, Nat.dvd_trans hd ⟨k, hk⟩, by rw [hk]; exact Nat.mul_le_mul hle (Nat.le_trans hle h)⟩
  · obtain ⟨r, hr, hd⟩ := exists_prime k (by omega)
    have hle := Nat.le_of_dvd (by omega) hd
    exact ⟨r, hr, Nat.dvd_trans hd ⟨m, by rw [hk, Nat.mul_comm]⟩, by rw [hk]; exact Nat.mul_le_mul (Nat.le_trans hle h) hle⟩

theorem pow_one_mod {r b m : Nat} (h : b ^ m % r = 1 % r) (k : Nat) : b ^ (m * k) % r = 1 % r := by
  rw [Nat.pow_mul, Nat.pow_mod, h, ← Nat.pow_mod, Nat.one_pow]

theorem pow_gcd (r b : Nat) : ∀ m n, b ^ m % r = 1 % r → b ^ n % r = 1 % r → b ^ (Nat.gcd m n) % r = 1 % r := by
  intro m n
  induction m, n using Nat.gcd.induction with
  | H0 n => intro _ h; rw [Nat.gcd_zero_left]; exact h
  | H1 m n hm ih =>
    intro h1 h2
    rw [Nat.gcd_rec]
    apply ih _ h1
    have e : b ^ n % r = b ^ (n % m) % r := by
      have h3 := pow_one_mod h1 (n / m)
      have e1 : b ^ n = b ^ (m * (n / m)) * b ^ (n % m) := by rw [← Nat.pow_add, Nat.div_add_mod]
      rw [e1, Nat.mul_mod, h3, ← Nat.mul_mod, Nat.one_mul]
    rw [← e]
    exact h2

/-- One step of Pocklington's test: q divides r - 1. -/
theorem pock {N b q c r : Nat} (hr : Pr r) (hrN : r ∣ N) (hq : Pr q) (hqN : q ∣ N - 1) (h1 : b ^ (N - 1) % N = 1 % N) (hc : b ^ ((N - 1) / q) % N = c % N) (hg : Nat.gcd (c - 1) N = 1) (hN : 2 ≤ N) : q ∣ r - 1 := by
  have down : ∀ x y, x % N = y % N → x % r = y % r := fun x y h => by
    obtain ⟨k, hk⟩ := hrN
    have := congrArg (· % r) h
    simp only [hk, Nat.mod_mul_right_mod] at this
    exact this
  have h1r := down _ _ h1
  have hcr := down _ _ hc
  have hb : ¬ r ∣ b := fun hd => by
    have h0 : b ^ (N - 1) % r = 0 := Nat.mod_eq_zero_of_dvd (Nat.dvd_trans hd ⟨b ^ (N - 2), by rw [Nat.mul_comm, ← Nat.pow_succ]; congr 1; omega⟩)
    rw [h0, Nat.mod_eq_of_lt (by have := hr.1; omega)] at h1r
    omega
  have hf : b ^ (r - 1) % r = 1 % r := by rw [hr.fermat1 hb, Nat.mod_eq_of_lt (by have := hr.1; omega)]
  apply Classical.byContradiction
  intro hnd
  have hco := hq.coprime hnd
  have hgd := pow_gcd r b (r - 1) (N - 1) hf h1r
  have hdv : Nat.gcd (r - 1) (N - 1) ∣ (N - 1) / q := by
    have hcq : Nat.Coprime (Nat.gcd (r - 1) (N - 1)) q := Nat.Coprime.coprime_dvd_left (Nat.gcd_dvd_left _ _) hco.symm
    have : Nat.gcd (r - 1) (N - 1) ∣ q * ((N - 1) / q) := by rw [Nat.mul_div_cancel' hqN]; exact Nat.gcd_dvd_right _ _
    exact hcq.dvd_of_dvd_mul_left this
  obtain ⟨k, hk⟩ := hdv
  have h2 := pow_one_mod hgd k
  rw [← hk, hcr] at h2
  have hrd : r ∣ c - 1 := Nat.dvd_of_mod_eq_zero (Nat.sub_mod_eq_zero_of_mod_eq h2)
  have := Nat.dvd_gcd hrd hrN
  rw [hg] at this
  have := Nat.le_of_dvd (by omega) this
  have := hr.1
  omega

/-! ### Powers modulo N, reckoned -/
def pm (N : Nat) : Nat → Nat → Nat → Nat
  | 0, _, _ => 1 % N
  | f + 1, b, e => if e = 0 then 1 % N else
      let h := pm N f (b * b % N) (e / 2)
      if e % 2 = 1 then b * h % N else h

theorem pm_eq (N : Nat) : ∀ f b e, e < 2 ^ f → pm N f b e = b ^ e % N
  | 0, b, e, h => by
    have : e = 0 := by simp at h; exact h
    subst this
    simp [pm]
  | f + 1, b, e, h => by
    unfold pm
    by_cases h0 : e = 0
    · subst h0; simp
    · rw [if_neg h0]
      have ih := pm_eq N f (b * b % N) (e / 2) (by rw [Nat.pow_succ] at h; omega)
      have e1 : (b * b % N) ^ (e / 2) % N = b ^ (2 * (e / 2)) % N := by rw [← Nat.pow_mod, ← Nat.pow_two, ← Nat.pow_mul]
      simp only [ih, e1]
      by_cases h1 : e % 2 = 1
      · rw [if_pos h1]
        have e2 : b ^ e = b * b ^ (2 * (e / 2)) := by
          rw [Nat.mul_comm, ← Nat.pow_succ]
          congr 1
          omega
        rw [e2, Nat.mul_mod b (b ^ (2 * (e / 2)) % N), Nat.mod_mod, ← Nat.mul_mod]
      · rw [if_neg h1]
        congr 2
        omega

theorem pr_of (p : Nat) (h2 : 2 ≤ p) (h : (List.range p).all (fun m => m < 2 || p % m != 0) = true) : Pr p := by
  refine ⟨h2, fun m hm => ?_⟩
  have hle := Nat.le_of_dvd (by omega) hm
  have hpos := Nat.pos_of_dvd_of_pos hm (by omega)
  by_cases h1 : m = 1
  · exact .inl h1
  · by_cases h3 : m = p
    · exact .inr h3
    · have := List.all_eq_true.1 h m (List.mem_range.2 (by omega))
      simp [Nat.mod_eq_zero_of_dvd hm] at this
      omega

/-! ### The prime 2^61 - 1 -/
def P : Nat := 2305843009213693951

set_option maxRecDepth 100000 in
theorem p1321 : Pr 1321 := pr_of 1321 (by decide +kernel) (by kernel_rfl)
set_option maxRecDepth 100000 in
theorem p331 : Pr 331 := pr_of 331 (by decide +kernel) (by kernel_rfl)
set_option maxRecDepth 100000 in
theorem p151 : Pr 151 := pr_of 151 (by decide +kernel) (by kernel_rfl)
set_option maxRecDepth 100000 in
theorem p61 : Pr 61 := pr_of 61 (by decide +kernel) (by kernel_rfl)

theorem P_one : 3 ^ (P - 1) % P = 1 % P := by
  rw [← pm_eq P 61 3 (P - 1) (by decide +kernel)]
  kernel_rfl
theorem P_c (q c : Nat) (h : pm P 61 3 ((P - 1) / q) = c % P) (hb : (P - 1) / q < 2 ^ 61) : 3 ^ ((P - 1) / q) % P = c % P := by
  rw [← pm_eq P 61 3 _ hb]
  exact h

theorem P_two : 2 ≤ P := by decide +kernel
theorem g1321 : Nat.gcd (234060095121088422 - 1) P = 1 := by decide +kernel
theorem c1321 : 3 ^ ((P - 1) / 1321) % P = 234060095121088422 % P := P_c 1321 234060095121088422 (by kernel_rfl) (by decide +kernel)
theorem n1321 : 1321 ∣ P - 1 := by decide +kernel
theorem d1321 {r : Nat} (hr : Pr r) (hd : r ∣ P) : 1321 ∣ r - 1 := pock (N := P) (b := 3) (q := 1321) (c := 234060095121088422) hr hd p1321 n1321 P_one c1321 g1321 P_two
theorem g331 : Nat.gcd (1491285494954315879 - 1) P = 1 := by decide +kernel
theorem c331 : 3 ^ ((P - 1) / 331) % P = 1491285494954315879 % P := P_c 331 1491285494954315879 (by kernel_rfl) (by decide +kernel)
theorem n331 : 331 ∣ P - 1 := by decide +kernel
theorem d331 {r : Nat} (hr : Pr r) (hd : r ∣ P) : 331 ∣ r - 1 := pock (N := P) (b := 3) (q := 331) (c := 1491285494954315879) hr hd p331 n331 P_one c331 g331 P_two
theorem g151 : Nat.gcd (2211238755008147949 - 1) P = 1 := by decide +kernel
theorem c151 : 3 ^ ((P - 1) / 151) % P = 2211238755008147949 % P := P_c 151 2211238755008147949 (by kernel_rfl) (by decide +kernel)
theorem n151 : 151 ∣ P - 1 := by decide +kernel
theorem d151 {r : Nat} (hr : Pr r) (hd : r ∣ P) : 151 ∣ r - 1 := pock (N := P) (b := 3) (q := 151) (c := 2211238755008147949) hr hd p151 n151 P_one c151 g151 P_two
theorem g61 : Nat.gcd (1125899906842624 - 1) P = 1 := by decide +kernel
theorem c61 : 3 ^ ((P - 1) / 61) % P = 1125899906842624 % P := P_c 61 1125899906842624 (by kernel_rfl) (by decide +kernel)
theorem n61 : 61 ∣ P - 1 := by decide +kernel
theorem d61 {r : Nat} (hr : Pr r) (hd : r ∣ P) : 61 ∣ r - 1 := pock (N := P) (b := 3) (q := 61) (c := 1125899906842624) hr hd p61 n61 P_one c61 g61 P_two
theorem all4 {x : Nat} (h1 : 1321 ∣ x) (h2 : 331 ∣ x) (h3 : 151 ∣ x) (h4 : 61 ∣ x) : 1321 * 331 * 151 * 61 ∣ x :=
  Nat.Coprime.mul_dvd_of_dvd_of_dvd (by decide +kernel) (Nat.Coprime.mul_dvd_of_dvd_of_dvd (by decide +kernel) (Nat.Coprime.mul_dvd_of_dvd_of_dvd (by decide +kernel) h1 h2) h3) h4
theorem big {r : Nat} (h2 : 2 ≤ r) (h : 1321 * 331 * 151 * 61 ∣ r - 1) : 4027518962 ≤ r := by
  have hle := Nat.le_of_dvd (by omega) h
  clear h
  omega

theorem P_prime : Pr P := by
  apply Classical.byContradiction
  intro hn
  obtain ⟨r, hr, hd, hs⟩ := small_prime P_two hn
  have h4 := big hr.1 (all4 (d1321 hr hd) (d331 hr hd) (d151 hr hd) (d61 hr hd))
  have h5 : 4027518962 * 4027518962 ≤ r * r := Nat.mul_le_mul h4 h4
  have h6 : P < 4027518962 * 4027518962 := by decide +kernel
  exact absurd (Nat.le_trans h5 hs) (Nat.not_le.2 h6)

/-- a * a^(P-2) ≡ 1 -/
theorem inv_mod (a : Nat) (h0 : 0 < a) (h1 : a < P) : a * (a ^ (P - 2)) % P = 1 := by
  have h := P_prime.fermat1 (a := a) (fun hd => by have := Nat.le_of_dvd h0 hd; omega)
  have e : P - 2 + 1 = P - 1 := by decide +kernel
  rw [← e, Nat.pow_succ] at h
  rw [Nat.mul_comm]
  exact h
#print axioms inv_mod
end NT
end Go.Proofs.Qxb6613925a
