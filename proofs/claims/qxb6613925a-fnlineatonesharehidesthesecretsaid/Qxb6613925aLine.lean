import Derived.Test.Qxb6613925aField
namespace Go.Proofs.Qxb6613925a
open Go.RowKit

/-- What stands while the statement goes on. -/
structure Sb (w0 : World) (s m x : Int) (w : World) : Prop where
  c0 : w.cell? ⟨w0.heap.size, 0, none⟩ = some (.int .u64 s)
  c1 : w.cell? ⟨w0.heap.size, 1, none⟩ = some (.int .u64 m)
  c2 : w.cell? ⟨w0.heap.size + 1, 0, none⟩ = some (.int .u64 x)
  c3 : w.cell? ⟨w0.heap.size + 1 + 1, 0, none⟩ = some (.int .u64 0)
  f3 : w.frozen? ⟨w0.heap.size + 1 + 1, 0, none⟩ = false
  bl : Below w0.heap.size w0 w
  sz : w0.heap.size + 3 ≤ w.heap.size

theorem Sb.below {w0 w w' : World} {s m x : Int} (h : Sb w0 s m x w) (hb : Below w.heap.size w w') : Sb w0 s m x w' := by
  have z := h.sz
  refine ⟨?_, ?_, ?_, ?_, ?_, h.bl.trans (hb.mono (by omega)), by have := hb.size; omega⟩
  · rw [hb.cell (p := ⟨w0.heap.size, 0, none⟩) (by show w0.heap.size < _; omega)]; exact h.c0
  · rw [hb.cell (p := ⟨w0.heap.size, 1, none⟩) (by show w0.heap.size < _; omega)]; exact h.c1
  · rw [hb.cell (p := ⟨w0.heap.size + 1, 0, none⟩) (by show w0.heap.size + 1 < _; omega)]; exact h.c2
  · rw [hb.cell (p := ⟨w0.heap.size + 1 + 1, 0, none⟩) (by show w0.heap.size + 1 + 1 < _; omega)]; exact h.c3
  · rw [hb.frozen (p := ⟨w0.heap.size + 1 + 1, 0, none⟩) (by show w0.heap.size + 1 + 1 < _; omega)]; exact h.f3

theorem Sb.start (w : World) (s m x : Int) : Sb w s m x (((w.alloc (.cells #[.int .u64 s, .int .u64 m] 60)).alloc (.cells #[.int .u64 x] 41)).alloc (.cells #[.int .u64 0] 41)).drew := by
  refine ⟨by simp [go_sem, World.cell?_alloc_past], by simp [go_sem, World.cell?_alloc_past], by simp [go_sem, World.cell?_alloc_past], by simp [go_sem], by simp [go_sem], ?_, by simp⟩
  exact ((((Below.refl _ _).alloc (Nat.le_refl _) _).alloc (by simp) _).alloc (by simp; omega) _).drew

set_option maxRecDepth 10000 in
set_option maxHeartbeats 400000 in
/-- (line).at(x) -/
theorem at_any (s m x : Int) (w : World) (h0 : 0 ≤ s) (h1 : s < 2305843009213693951) (h2 : 0 ≤ m) (h3 : m < 2305843009213693951) (h4 : 0 ≤ x) (h5 : x < 2305843009213693951) :
    Calls Try.prog 24 #[.agg #[.int .u64 s, .int .u64 m], .agg #[.int .u64 x]] w fun e w' => e = .returned (.agg #[.int .u64 ((s + m * x % PI) % PI)]) ∧ Below w.heap.size w w' := by
  have S0 := Sb.start w s m x
  have d0 := S0.c0
  have d1 := S0.c1
  have d2 := S0.c2
  have hb := emod_bd (m * x)
  obtain ⟨t, ht⟩ : ∃ t, t = m * x % PI := ⟨_, rfl⟩
  rw [← ht] at hb ⊢
  have HT : Hid (t = m * x % PI) := ht
  clear ht
  obtain ⟨t0, t1⟩ := hb
  go_enter Try.func24, Try.ntmps24
  go_wp2_with fail
  go_region_held3 (fun wx => (wx.cell? ⟨w.heap.size, 0, none⟩ = some (.int .u64 s) ∧ wx.cell? ⟨w.heap.size, 1, none⟩ = some (.int .u64 m) ∧ wx.cell? ⟨w.heap.size + 1, 0, none⟩ = some (.int .u64 x))) ((first | (refine ⟨?_, ?_, ?_⟩ <;> assumption) | (simp [go_sem, *]))) ((first | (go_at_call 27; refine (fmul_any m x _ h2 h3 h4 h5).mono ?_; rintro e w1 ⟨rfl, b1⟩; rw [← HT.out]; have S1 := S0.below b1; have e0 := S1.c0; have e1 := S1.c1; have e2 := S1.c2) | (go_at_call 26; refine (fadd_any s t _ h0 h1 t0 t1).mono ?_; rintro e w2 ⟨rfl, b2⟩; have S2 := S1.below b2; have g0 := S2.c0; have g1 := S2.c1; have g2 := S2.c2; have g3 := S2.c3; have g4 := S2.f3)))
  go_wp2
  exact bodyPost_ret (v := .agg #[.int .u64 ((s + t) % PI)]) (by simp [results, Try.results24, go_sem, g3]) rfl ⟨rfl, S2.bl.setCell (by show w.heap.size ≤ w.heap.size + 1 + 1; omega) _⟩

set_option maxRecDepth 10000 in
set_option maxHeartbeats 400000 in
/-- ZZlineAt(secret, slope, x) -/
theorem lineAt_to (s m x y : Int) (w : World) (h0 : 0 ≤ s) (h1 : s < 2305843009213693951) (h2 : 0 ≤ m) (h3 : m < 2305843009213693951) (h4 : 0 ≤ x) (h5 : x < 2305843009213693951) (hy : Hid (y = (s + m * x % PI) % PI)) :
    Calls Try.prog 18 #[.agg #[.int .u64 s], .agg #[.int .u64 m], .agg #[.int .u64 x]] w fun e w' => e = .returned (.agg #[.int .u64 y]) ∧ Below w.heap.size w w' := by
  go_enter Try.func18, Try.ntmps18
  go_wp2_with fail
  refine (at_any s m x _ h0 h1 h2 h3 h4 h5).mono ?_
  rintro e w1 ⟨rfl, b1⟩
  rw [← hy.out]
  have q1 : w1.cell? ⟨w.heap.size + 1 + 1 + 1, 0, none⟩ = some (.int .u64 0) := by
    rw [b1.cell (p := ⟨w.heap.size + 1 + 1 + 1, 0, none⟩) (by simp)]
    simp [go_sem]
  have q2 : w1.frozen? ⟨w.heap.size + 1 + 1 + 1, 0, none⟩ = false := by
    rw [b1.frozen (p := ⟨w.heap.size + 1 + 1 + 1, 0, none⟩) (by simp)]
    simp [go_sem]
  have q3 : Below w.heap.size w w1 := ((((((Below.refl _ w).alloc (Nat.le_refl _) _).alloc (by simp) _).alloc (by simp; omega) _).alloc (by simp; omega) _)).trans (b1.mono (by simp; omega))
  clear b1
  go_wp2
  exact bodyPost_ret (v := .agg #[.int .u64 y]) (by simp [results, Try.results18, go_sem, q1]) rfl ⟨rfl, q3.setCell (by show w.heap.size ≤ w.heap.size + 1 + 1 + 1; omega) _⟩

set_option maxRecDepth 10000 in
set_option maxHeartbeats 400000 in
/-- zzAt(s, m, x) -/
theorem zzAt_to (s m x s' m' x' y : Int) (w : World) (h0 : 0 ≤ s) (h1 : s ≤ 18446744073709551615) (h2 : 0 ≤ m) (h3 : m ≤ 18446744073709551615) (h4 : 0 ≤ x) (h5 : x ≤ 18446744073709551615)
    (hs : Hid (s' = s % PI)) (hm : Hid (m' = m % PI)) (hx : Hid (x' = x % PI)) (hy : Hid (y = (s' + m' * x' % PI) % PI))
    (a0 : 0 ≤ s') (a1 : s' < 2305843009213693951) (a2 : 0 ≤ m') (a3 : m' < 2305843009213693951) (a4 : 0 ≤ x') (a5 : x' < 2305843009213693951) :
    Calls Try.prog 6 #[.int .u64 s, .int .u64 m, .int .u64 x] w fun e w' => e = .returned (.int .u64 y) ∧ Below w.heap.size w w' := by
  go_enter Try.func6, Try.ntmps6
  go_wp2_with fail
  refine (new_any s _ h0 h1).mono ?_
  rintro e w1 ⟨rfl, b1⟩
  rw [← hs.out]
  go_wp2_with fail
  refine (new_any m _ h2 h3).mono ?_
  rintro e w2 ⟨rfl, b2⟩
  rw [← hm.out]
  go_wp2_with fail
  refine (new_any x _ h4 h5).mono ?_
  rintro e w3 ⟨rfl, b3⟩
  rw [← hx.out]
  have B3 : Below w.heap.size w w3 := b1.trans ((b2.mono b1.size).trans (b3.mono (Nat.le_trans b1.size b2.size)))
  clear b1 b2 b3
  go_wp2_with fail
  refine (lineAt_to s' m' x' y _ a0 a1 a2 a3 a4 a5 hy).mono ?_
  rintro e w4 ⟨rfl, b4⟩
  have B4 := B3.trans (b4.mono B3.size)
  clear b4 B3
  go_wp2_with fail
  refine (value_any y _).mono ?_
  rintro e w5 ⟨rfl, b5⟩
  have B5 := B4.trans (b5.mono B4.size)
  go_wp2
  go_ret
  exact ⟨rfl, B5⟩

theorem zzAt_any (s m x : Int) (w : World) (h0 : 0 ≤ s) (h1 : s ≤ 18446744073709551615) (h2 : 0 ≤ m) (h3 : m ≤ 18446744073709551615) (h4 : 0 ≤ x) (h5 : x ≤ 18446744073709551615) :
    Calls Try.prog 6 #[.int .u64 s, .int .u64 m, .int .u64 x] w fun e w' => e = .returned (.int .u64 ((s % PI + (m % PI) * (x % PI) % PI) % PI)) ∧ Below w.heap.size w w' :=
  zzAt_to s m x _ _ _ _ w h0 h1 h2 h3 h4 h5 (Eq.refl _) (Eq.refl _) (Eq.refl _) (Eq.refl _) (emod_bd s).1 (emod_bd s).2 (emod_bd m).1 (emod_bd m).2 (emod_bd x).1 (emod_bd x).2
end Go.Proofs.Qxb6613925a
