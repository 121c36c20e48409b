import Derived.Test.Qxb6613925aLine
import Derived.Test.Qxb6613925aLaw
namespace Go.Proofs.Qxb6613925a
open Go.RowKit

set_option maxRecDepth 10000 in
set_option maxHeartbeats 400000 in
theorem two_same (s m x1 x2 a : Int) (w : World)
    (ha : x1.tmod 2305843009213693951 = a) (hb : x2.tmod 2305843009213693951 = a) :
    Calls Try.prog 3 #[.int .u64 s, .int .u64 m, .int .u64 x1, .int .u64 x2] w fun e w' => e = .returned (.bool true) ∧ Below w.heap.size w w' := by
  go_enter Try.func3, Try.ntmps3
  go_wp2
  go_ret
  exact ⟨rfl, Below.refl _ _⟩

/-- a residue, with its bounds -/
structure Res (y : Int) : Prop where
  lo : 0 ≤ y
  hi : y < 2305843009213693951

set_option maxRecDepth 10000 in
set_option maxHeartbeats 800000 in
/-- the road where a and b part -/
theorem two_part (s m x1 x2 a b y1 y2 dd d n sl p1 p2 q se : Int) (w : World)
    (w0 : Hid (0 ≤ s)) (w1 : Hid (s ≤ 18446744073709551615)) (w2 : Hid (0 ≤ m)) (w3 : Hid (m ≤ 18446744073709551615)) (w4 : Hid (0 ≤ x1)) (w5 : Hid (x1 ≤ 18446744073709551615)) (w6 : Hid (0 ≤ x2)) (w7 : Hid (x2 ≤ 18446744073709551615))
    (ha : x1.tmod 2305843009213693951 = a) (hb : x2.tmod 2305843009213693951 = b) (hne : (a == b) = false)
    (g1 : decide (2305843009213693951 ≤ y1) = false) (g2 : decide (2305843009213693951 ≤ y2) = false)
    (hy1 : Hid ((s % PI + (m % PI) * (x1 % PI) % PI) % PI = y1)) (hy2 : Hid ((s % PI + (m % PI) * (x2 % PI) % PI) % PI = y2))
    (hdd : Hid ((b - a) % PI = dd)) (hd : Hid (dd ^ eInv % PI = d)) (hn : Hid ((y2 - y1) % PI = n)) (hsl : Hid (n * d % PI = sl))
    (hp1 : Hid (y1 * b % PI = p1)) (hp2 : Hid (y2 * a % PI = p2)) (hq : Hid ((p1 - p2) % PI = q)) (hse : Hid (q * d % PI = se))
    (ra : Res a) (rb : Res b) (r1 : Res y1) (r2 : Res y2) (rdd : Res dd) (rd : Res d) (rn : Res n) (rp1 : Res p1) (rp2 : Res p2) (rq : Res q)
    (hm : m.tmod 2305843009213693951 = sl) (hs : s.tmod 2305843009213693951 = se) :
    Calls Try.prog 3 #[.int .u64 s, .int .u64 m, .int .u64 x1, .int .u64 x2] w fun e w' => e = .returned (.bool true) ∧ Below w.heap.size w w' := by
  go_enter Try.func3, Try.ntmps3
  go_wp2_with fail
  refine (zzAt_any s m x1 _ w0.out w1.out w2.out w3.out w4.out w5.out).mono ?_
  rintro e v1 ⟨rfl, b1⟩
  rw [hy1.out]
  go_wp2_with fail
  refine (zzAt_any s m x2 _ w0.out w1.out w2.out w3.out w6.out w7.out).mono ?_
  rintro e v2 ⟨rfl, b2⟩
  rw [hy2.out]
  go_wp2_with fail
  refine (sub_any b a _ rb.lo rb.hi ra.lo ra.hi).mono ?_
  rintro e v3 ⟨rfl, rfl⟩
  rw [hdd.out]
  go_wp2_with fail
  refine (inv_any dd _ rdd.lo rdd.hi).mono ?_
  rintro e v4 ⟨rfl, rfl⟩
  rw [hd.out]
  go_wp2_with fail
  refine (sub_any y2 y1 _ r2.lo r2.hi r1.lo r1.hi).mono ?_
  rintro e v5 ⟨rfl, rfl⟩
  rw [hn.out]
  go_wp2_with fail
  refine (mul_any n d _ rn.lo rn.hi rd.lo rd.hi).mono ?_
  rintro e v6 ⟨rfl, rfl⟩
  rw [hsl.out]
  go_wp2_with fail
  refine (mul_any y1 b _ r1.lo r1.hi rb.lo rb.hi).mono ?_
  rintro e v7 ⟨rfl, rfl⟩
  rw [hp1.out]
  go_wp2_with fail
  refine (mul_any y2 a _ r2.lo r2.hi ra.lo ra.hi).mono ?_
  rintro e v8 ⟨rfl, rfl⟩
  rw [hp2.out]
  go_wp2_with fail
  refine (sub_any p1 p2 _ rp1.lo rp1.hi rp2.lo rp2.hi).mono ?_
  rintro e v9 ⟨rfl, rfl⟩
  rw [hq.out]
  go_wp2_with fail
  refine (mul_any q d _ rq.lo rq.hi rd.lo rd.hi).mono ?_
  rintro e v10 ⟨rfl, rfl⟩
  rw [hse.out]
  go_wp2
  go_ret
  exact ⟨rfl, b1.trans (b2.mono b1.size)⟩

/-- a word's remainder, as the program's text has it -/
theorem tmod_eq (x : Int) (h : 0 ≤ x) : x.tmod 2305843009213693951 = x % PI := Int.tmod_eq_emod_of_nonneg h
theorem res (x : Int) : Res (x % PI) := ⟨(emod_bd x).1, (emod_bd x).2⟩
theorem far (x : Int) : decide (2305843009213693951 ≤ x % PI) = false := by have := (emod_bd x).2; simp; omega

/-- FnLineAtTwoPointsGiveAwayTheLine answers true. -/
theorem two_any (s m x1 x2 : Int) (w : World) (w0 : 0 ≤ s) (w1 : s ≤ 18446744073709551615) (w2 : 0 ≤ m) (w3 : m ≤ 18446744073709551615) (w4 : 0 ≤ x1) (w5 : x1 ≤ 18446744073709551615) (w6 : 0 ≤ x2) (w7 : x2 ≤ 18446744073709551615) :
    Calls Try.prog 3 #[.int .u64 s, .int .u64 m, .int .u64 x1, .int .u64 x2] w fun e w' => e = .returned (.bool true) ∧ Below w.heap.size w w' := by
  by_cases ne : x1 % PI = x2 % PI
  · exact two_same s m x1 x2 (x1 % PI) w (tmod_eq x1 w4) (by rw [ne]; exact tmod_eq x2 w6)
  · have hd : Eqm (((x2 % PI - x1 % PI)) * (((x2 % PI - x1 % PI) % PI) ^ eInv % PI)) 1 :=
      Eqm.trans ((Eqm.md _).symm.mul (Eqm.rfl' _)) (inv_law ((x2 % PI - x1 % PI) % PI) (diff_law _ _ (emod_bd x1).1 (emod_bd x1).2 (emod_bd x2).1 (emod_bd x2).2 ne) (emod_bd _).2)
    have k := two_law (s % PI) (m % PI) (x1 % PI) (x2 % PI) _ ((s % PI + (m % PI) * (x1 % PI) % PI) % PI) ((s % PI + (m % PI) * (x2 % PI) % PI) % PI) hd
      (Eqm.trans (Eqm.md _) ((Eqm.rfl' _).add (Eqm.md _))) (Eqm.trans (Eqm.md _) ((Eqm.rfl' _).add (Eqm.md _)))
    refine two_part s m x1 x2 (x1 % PI) (x2 % PI) _ _ _ _ _ _ _ _ _ _ w w0 w1 w2 w3 w4 w5 w6 w7 (tmod_eq x1 w4) (tmod_eq x2 w6) (by simpa using ne) ?_ ?_
      (Eq.refl _) (Eq.refl _) (Eq.refl _) (Eq.refl _) (Eq.refl _) (Eq.refl _) (Eq.refl _) (Eq.refl _) (Eq.refl _) (Eq.refl _)
      (res _) (res _) (res _) (res _) (res _) (res _) (res _) (res _) (res _) (res _) ?_ ?_
    · exact far _
    · exact far _
    · rw [tmod_eq m w2]
      refine (Eqm.eq (Eqm.trans (Eqm.md _) (Eqm.trans ((Eqm.md _).mul (Eqm.rfl' _)) k.1)) (emod_bd _).1 (emod_bd _).2 (emod_bd _).1 (emod_bd _).2).symm
    · rw [tmod_eq s w0]
      refine (Eqm.eq (Eqm.trans (Eqm.md _) (Eqm.trans ((Eqm.trans (Eqm.md _) ((Eqm.md _).sub (Eqm.md _))).mul (Eqm.rfl' _)) k.2)) (emod_bd _).1 (emod_bd _).2 (emod_bd _).1 (emod_bd _).2).symm

set_option maxRecDepth 10000 in
set_option maxHeartbeats 400000 in
theorem one_zero (s m s2 x : Int) (w : World) (hx : x.tmod 2305843009213693951 = 0) :
    Calls Try.prog 4 #[.int .u64 s, .int .u64 m, .int .u64 s2, .int .u64 x] w fun e w' => e = .returned (.bool true) ∧ Below w.heap.size w w' := by
  go_enter Try.func4, Try.ntmps4
  go_wp2
  go_ret
  exact ⟨rfl, Below.refl _ _⟩

set_option maxRecDepth 10000 in
set_option maxHeartbeats 800000 in
/-- the road where x is not 0 -/
theorem one_part (s m s2 x xr sr mr tr df i p m2 y q : Int) (w : World)
    (w0 : Hid (0 ≤ s)) (w1 : Hid (s ≤ 18446744073709551615)) (w2 : Hid (0 ≤ m)) (w3 : Hid (m ≤ 18446744073709551615)) (w4 : Hid (0 ≤ s2)) (w5 : Hid (s2 ≤ 18446744073709551615)) (w6 : Hid (0 ≤ x)) (w7 : Hid (x ≤ 18446744073709551615))
    (hx : x.tmod 2305843009213693951 = xr) (hs : s.tmod 2305843009213693951 = sr) (hm : m.tmod 2305843009213693951 = mr) (ht : s2.tmod 2305843009213693951 = tr) (hne : (xr == 0) = false)
    (hdf : Hid ((sr - tr) % PI = df)) (hi : Hid (xr ^ eInv % PI = i)) (hp : Hid (df * i % PI = p)) (hm2 : Hid ((mr + p) % PI = m2))
    (hy : Hid ((s % PI + (m % PI) * (x % PI) % PI) % PI = y)) (hy2 : Hid ((s2 % PI + (m2 % PI) * (x % PI) % PI) % PI = y))
    (hq : Hid (mr * xr % PI = q)) (hz : Hid ((sr + q) % PI = y))
    (rx : Res xr) (rs : Res sr) (rm : Res mr) (rt : Res tr) (rdf : Res df) (ri : Res i) (rp : Res p) (rm2 : Res m2) (rq : Res q) :
    Calls Try.prog 4 #[.int .u64 s, .int .u64 m, .int .u64 s2, .int .u64 x] w fun e w' => e = .returned (.bool true) ∧ Below w.heap.size w w' := by
  have z0 : Hid (m2 ≤ 18446744073709551615) := by have := rm2.hi; show m2 ≤ 18446744073709551615; omega
  go_enter Try.func4, Try.ntmps4
  go_wp2_with fail
  refine (sub_any sr tr _ rs.lo rs.hi rt.lo rt.hi).mono ?_
  rintro e v1 ⟨rfl, rfl⟩
  rw [hdf.out]
  go_wp2_with fail
  refine (inv_any xr _ rx.lo rx.hi).mono ?_
  rintro e v2 ⟨rfl, rfl⟩
  rw [hi.out]
  go_wp2_with fail
  refine (mul_any df i _ rdf.lo rdf.hi ri.lo ri.hi).mono ?_
  rintro e v3 ⟨rfl, rfl⟩
  rw [hp.out]
  go_wp2_with fail
  refine (add_any mr p _ rm.lo rm.hi rp.lo rp.hi).mono ?_
  rintro e v4 ⟨rfl, rfl⟩
  rw [hm2.out]
  go_wp2_with fail
  refine (zzAt_any s m x _ w0.out w1.out w2.out w3.out w6.out w7.out).mono ?_
  rintro e v5 ⟨rfl, b1⟩
  rw [hy.out]
  go_wp2_with fail
  refine (zzAt_any s2 m2 x _ w4.out w5.out rm2.lo z0.out w6.out w7.out).mono ?_
  rintro e v6 ⟨rfl, b2⟩
  rw [hy2.out]
  go_wp2_with fail
  refine (mul_any mr xr _ rm.lo rm.hi rx.lo rx.hi).mono ?_
  rintro e v7 ⟨rfl, rfl⟩
  rw [hq.out]
  go_wp2_with fail
  refine (add_any sr q _ rs.lo rs.hi rq.lo rq.hi).mono ?_
  rintro e v8 ⟨rfl, rfl⟩
  rw [hz.out]
  go_wp2
  go_ret
  exact ⟨rfl, b1.trans (b2.mono b1.size)⟩

/-- FnLineAtOneShareHidesTheSecret answers true. -/
theorem one_any (s m s2 x : Int) (w : World) (w0 : 0 ≤ s) (w1 : s ≤ 18446744073709551615) (w2 : 0 ≤ m) (w3 : m ≤ 18446744073709551615) (w4 : 0 ≤ s2) (w5 : s2 ≤ 18446744073709551615) (w6 : 0 ≤ x) (w7 : x ≤ 18446744073709551615) :
    Calls Try.prog 4 #[.int .u64 s, .int .u64 m, .int .u64 s2, .int .u64 x] w fun e w' => e = .returned (.bool true) ∧ Below w.heap.size w w' := by
  by_cases ne : x % PI = 0
  · exact one_zero s m s2 x w (by rw [tmod_eq x w6]; exact ne)
  · have hi := inv_law (x % PI) (by have := (emod_bd x).1; omega) (emod_bd x).2
    have k := one_law (s % PI) (m % PI) (s2 % PI) (x % PI) ((x % PI) ^ eInv % PI) _ hi
      (Eqm.trans (Eqm.md _) (Eqm.trans (Eqm.md (m % PI + (s % PI - s2 % PI) % PI * ((x % PI) ^ eInv % PI) % PI)) ((Eqm.rfl' _).add (Eqm.trans (Eqm.md _) ((Eqm.md _).mul (Eqm.rfl' _))))))
    refine one_part s m s2 x (x % PI) (s % PI) (m % PI) (s2 % PI) _ _ _ _ ((s % PI + (m % PI) * (x % PI) % PI) % PI) _ w w0 w1 w2 w3 w4 w5 w6 w7 (tmod_eq x w6) (tmod_eq s w0) (tmod_eq m w2) (tmod_eq s2 w4) (by simpa using ne)
      (Eq.refl _) (Eq.refl _) (Eq.refl _) (Eq.refl _) (Eq.refl _) ?_ (Eq.refl _) (Eq.refl _)
      (res _) (res _) (res _) (res _) (res _) (res _) (res _) (res _) (res _)
    exact Eqm.trans ((Eqm.rfl' _).add (Eqm.md _)) (Eqm.trans k ((Eqm.rfl' _).add (Eqm.md _).symm))
end Go.Proofs.Qxb6613925a
