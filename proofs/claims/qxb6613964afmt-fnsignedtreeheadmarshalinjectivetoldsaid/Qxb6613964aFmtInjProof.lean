import Derived.Test.Qxb6613964aFmtOpens
import Derived.Test.Qxb6613964aFmtInjWalk
namespace Go.Proofs.Qxb6613964aFmt
open Go.ChangeShapes Go.WideShapes Go.ChangeAt Go.RowKit
open Go.Extern.Stop Go.Stop Go.Extern

set_option maxRecDepth 100000 in
theorem injective_lifted (os : Os) (started : os.Started) (H : Type) (enc : TypeId × Value → H) :
    ReturnsInTold none {} Tryf.checked os 6 .any Input.okWide ((OpenSpec.ofChange Rows.fnSignedTreeHeadMarshalInjectiveSpec).preRow enc Tryf.prog Tryf.f6 [] false []) (fun F => ((OpenSpec.ofChange Rows.fnSignedTreeHeadMarshalInjectiveSpec).at F).post enc Tryf.prog Tryf.f6 false true false false) (aloneAtReturn Tryf.prog) nothingAlways := by
  refine returnsInTold_of_row (C := Tryf.checked) (s := OpenSpec.ofChange Rows.fnSignedTreeHeadMarshalInjectiveSpec) (by kernel_rfl) Tryf.own started (by kernel_rfl) Tryf.func6
    (OpenSpec.witness_stopped (enc := enc) (C := Tryf.checked) false ⟨#[], #[.slice none 0 0, .int .u64 0, .int .u64 0, .agg #[.int .u8 0, .int .u8 0, .int .u8 0, .int .u8 0, .int .u8 0, .int .u8 0, .int .u8 0, .int .u8 0, .int .u8 0, .int .u8 0, .int .u8 0, .int .u8 0, .int .u8 0, .int .u8 0, .int .u8 0, .int .u8 0, .int .u8 0, .int .u8 0, .int .u8 0, .int .u8 0, .int .u8 0, .int .u8 0, .int .u8 0, .int .u8 0, .int .u8 0, .int .u8 0, .int .u8 0, .int .u8 0, .int .u8 0, .int .u8 0, .int .u8 0, .int .u8 0], .slice none 0 0, .slice none 0 0, .int .u64 0, .int .u64 0, .agg #[.int .u8 0, .int .u8 0, .int .u8 0, .int .u8 0, .int .u8 0, .int .u8 0, .int .u8 0, .int .u8 0, .int .u8 0, .int .u8 0, .int .u8 0, .int .u8 0, .int .u8 0, .int .u8 0, .int .u8 0, .int .u8 0, .int .u8 0, .int .u8 0, .int .u8 0, .int .u8 0, .int .u8 0, .int .u8 0, .int .u8 0, .int .u8 0, .int .u8 0, .int .u8 0, .int .u8 0, .int .u8 0, .int .u8 0, .int .u8 0, .int .u8 0, .int .u8 0], .slice none 0 0], []⟩ 40 (by kernel_rfl) (by kernel_rfl) (by kernel_rfl) (by kernel_rfl)) ?_
  intro F W base args ds gs before _ _ hval0 hW _ _ _ _ _
  have hval : ∀ (j : Nat) t v, Tryf.f6.params[j]? = some t → args[j]? = some v → Value.okWide Tryf.prog W .any base t v := hval0
  have hW' := hW
  obtain ⟨p, q, hA0, hV, rfl, _, _⟩ := hW
  have hA : DataW.TrodAll enc Tryf.prog W 0 (fun _ => true) true Tryf.f6.params.toList args.toList ds p := hA0
  rw [Tryf.params6] at hA hval
  obtain ⟨v0, vs0, d0, ds0, p0, q0, hargs, rfl, rfl, h0, r0⟩ := trodAll_cons hA
  obtain ⟨v1, vs1, d1, ds1, p1, q1, rfl, rfl, rfl, h1, r1⟩ := trodAll_cons r0
  obtain ⟨v2, vs2, d2, ds2, p2, q2, rfl, rfl, rfl, h2, r2⟩ := trodAll_cons r1
  obtain ⟨v3, vs3, d3, ds3, p3, q3, rfl, rfl, rfl, h3, r3⟩ := trodAll_cons r2
  obtain ⟨v4, vs4, d4, ds4, p4, q4, rfl, rfl, rfl, h4, r4⟩ := trodAll_cons r3
  obtain ⟨v5, vs5, d5, ds5, p5, q5, rfl, rfl, rfl, h5, r5⟩ := trodAll_cons r4
  obtain ⟨v6, vs6, d6, ds6, p6, q6, rfl, rfl, rfl, h6, r6⟩ := trodAll_cons r5
  obtain ⟨v7, vs7, d7, ds7, p7, q7, rfl, rfl, rfl, h7, r7⟩ := trodAll_cons r6
  obtain ⟨v8, vs8, d8, ds8, p8, q8, rfl, rfl, rfl, h8, r8⟩ := trodAll_cons r7
  obtain ⟨v9, vs9, d9, ds9, p9, q9, rfl, rfl, rfl, h9, r9⟩ := trodAll_cons r8
  obtain ⟨rfl, rfl, rfl⟩ := trodAll_nil r9
  obtain rfl : args = #[v0, v1, v2, v3, v4, v5, v6, v7, v8, v9] := by cases args; simp_all
  obtain ⟨rfl, rfl⟩ := trodVars_none hV
  have k0 := h0
  have lt0 : ∀ x ∈ p0, x.block < W.heap.size := by obtain ⟨m, hm⟩ := k0; exact DataW.trod_lt m _ _ _ hm
  obtain ⟨a0, n0, c0, z0, rfl, e0, m0, s0, g0⟩ := openBytes (hval 0 22 v0 rfl rfl) h0
  have k1 := h1
  have lt1 : ∀ x ∈ p1, x.block < W.heap.size := by obtain ⟨m, hm⟩ := k1; exact DataW.trod_lt m _ _ _ hm
  obtain ⟨x1, rfl, rfl, rfl, w1⟩ := open_int Tryf.underlying29 (hval 1 29 v1 rfl rfl) h1
  have b1 := bounds_u64 w1
  have k2 := h2
  have lt2 : ∀ x ∈ p2, x.block < W.heap.size := by obtain ⟨m, hm⟩ := k2; exact DataW.trod_lt m _ _ _ hm
  obtain ⟨x2, rfl, rfl, rfl, w2⟩ := open_int Tryf.underlying29 (hval 2 29 v2 rfl rfl) h2
  have b2 := bounds_u64 w2
  have k3 := h3
  have lt3 : ∀ x ∈ p3, x.block < W.heap.size := by obtain ⟨m, hm⟩ := k3; exact DataW.trod_lt m _ _ _ hm
  obtain ⟨y3, rfl, l3⟩ := openHash (hval 3 23 v3 rfl rfl) h3
  have k4 := h4
  have lt4 : ∀ x ∈ p4, x.block < W.heap.size := by obtain ⟨m, hm⟩ := k4; exact DataW.trod_lt m _ _ _ hm
  obtain ⟨a4, n4, c4, z4, rfl, e4, m4, s4, g4⟩ := openBytes (hval 4 22 v4 rfl rfl) h4
  have k5 := h5
  have lt5 : ∀ x ∈ p5, x.block < W.heap.size := by obtain ⟨m, hm⟩ := k5; exact DataW.trod_lt m _ _ _ hm
  obtain ⟨a5, n5, c5, z5, rfl, e5, m5, s5, g5⟩ := openBytes (hval 5 22 v5 rfl rfl) h5
  have k6 := h6
  have lt6 : ∀ x ∈ p6, x.block < W.heap.size := by obtain ⟨m, hm⟩ := k6; exact DataW.trod_lt m _ _ _ hm
  obtain ⟨x6, rfl, rfl, rfl, w6⟩ := open_int Tryf.underlying29 (hval 6 29 v6 rfl rfl) h6
  have b6 := bounds_u64 w6
  have k7 := h7
  have lt7 : ∀ x ∈ p7, x.block < W.heap.size := by obtain ⟨m, hm⟩ := k7; exact DataW.trod_lt m _ _ _ hm
  obtain ⟨x7, rfl, rfl, rfl, w7⟩ := open_int Tryf.underlying29 (hval 7 29 v7 rfl rfl) h7
  have b7 := bounds_u64 w7
  have k8 := h8
  have lt8 : ∀ x ∈ p8, x.block < W.heap.size := by obtain ⟨m, hm⟩ := k8; exact DataW.trod_lt m _ _ _ hm
  obtain ⟨y8, rfl, l8⟩ := openHash (hval 8 23 v8 rfl rfl) h8
  have k9 := h9
  have lt9 : ∀ x ∈ p9, x.block < W.heap.size := by obtain ⟨m, hm⟩ := k9; exact DataW.trod_lt m _ _ _ hm
  obtain ⟨a9, n9, c9, z9, rfl, e9, m9, s9, g9⟩ := openBytes (hval 9 22 v9 rfl rfl) h9
  clear hA0 hval0
  have walk : Calls Tryf.prog 6 #[.slice a0 n0 c0, .int .u64 x1, .int .u64 x2, .agg (I y3).toArray, .slice a4 n4 c4, .slice a5 n5 c5, .int .u64 x6, .int .u64 x7, .agg (I y8).toArray, .slice a9 n9 c9] W fun e w' => e = .returned (.bool true) ∧ Below W.heap.size W w' := by
    by_cases hm : n0 ≤ 255 ∧ n4 ≤ 65535 ∧ n5 ≤ 255 ∧ n9 ≤ 65535
    · exact inj_walk W a0 a4 a5 a9 n0 c0 n4 c4 n5 c5 n9 c9 z0 z4 z5 z9 y3 y8 x1 x2 x6 x7 m0 m4 m5 m9 l3 l8 hm.1 hm.2.1 hm.2.2.1 hm.2.2.2 e0 e4 e5 e9 s0 s4 s5 s9 g0 g4 g5 g9 b1.1 b1.2 b2.1 b2.2 b6.1 b6.2 b7.1 b7.2
    · exact inj_out W a0 a4 a5 a9 n0 c0 n4 c4 n5 c5 n9 c9 y3 y8 x1 x2 x6 x7 m0 m4 m5 m9 l3 l8 hm
  refine walk.mono fun e W' ⟨he, bel⟩ => ?_
  subst he
  exact ⟨_, rfl, _, _, _, [], _, [], hW', trodAll_mk1 (shut_bool Tryf.underlying4 _), (trodAll_cons_mk (Below.trod Tryf.laidOut' (by kernel_rfl) (of_decide_eq_true (by kernel_rfl)) k0 bel lt0) (trodAll_cons_mk (Below.trod Tryf.laidOut' (by kernel_rfl) (of_decide_eq_true (by kernel_rfl)) k1 bel lt1) (trodAll_cons_mk (Below.trod Tryf.laidOut' (by kernel_rfl) (of_decide_eq_true (by kernel_rfl)) k2 bel lt2) (trodAll_cons_mk (Below.trod Tryf.laidOut' (by kernel_rfl) (of_decide_eq_true (by kernel_rfl)) k3 bel lt3) (trodAll_cons_mk (Below.trod Tryf.laidOut' (by kernel_rfl) (of_decide_eq_true (by kernel_rfl)) k4 bel lt4) (trodAll_cons_mk (Below.trod Tryf.laidOut' (by kernel_rfl) (of_decide_eq_true (by kernel_rfl)) k5 bel lt5) (trodAll_cons_mk (Below.trod Tryf.laidOut' (by kernel_rfl) (of_decide_eq_true (by kernel_rfl)) k6 bel lt6) (trodAll_cons_mk (Below.trod Tryf.laidOut' (by kernel_rfl) (of_decide_eq_true (by kernel_rfl)) k7 bel lt7) (trodAll_cons_mk (Below.trod Tryf.laidOut' (by kernel_rfl) (of_decide_eq_true (by kernel_rfl)) k8 bel lt8) (trodAll_cons_mk (Below.trod Tryf.laidOut' (by kernel_rfl) (of_decide_eq_true (by kernel_rfl)) k9 bel lt9) trodAll_mk0)))))))))), rfl, bel.frame _, fun h => by cases h⟩

theorem injective_proved : Rows.FnSignedTreeHeadMarshalInjectiveToldSaid :=
  Claim7.holds_of_told_any 6 Tryf.f6 "fmt.Sprintf" [] [] _ _ _ (by kernel_rfl) rfl rfl rfl Tryf.laidOut (by kernel_rfl) rfl ⟨rfl, rfl, rfl, rfl, rfl, rfl, rfl⟩ rfl rfl (by kernel_rfl) (by kernel_rfl) Tryf.func6 (by kernel_rfl)
    (of_decide_eq_true (by kernel_rfl)) (by unfold Func.isWrapper; rw [if_neg (of_decide_eq_false (by kernel_rfl))]; exact ⟨rfl, rfl⟩) Tryf.stops.symm rfl Tryf.stopKnobs.symm (by kernel_rfl)
    (by kernel_rfl) (by kernel_rfl) (by kernel_rfl) (by kernel_rfl) (by kernel_rfl) (by kernel_rfl) (by kernel_rfl) (by kernel_rfl) (by kernel_rfl) rfl (by kernel_rfl) rfl rfl
    rfl rfl
    rfl (by kernel_rfl) (by kernel_rfl) (by kernel_rfl) (by decide) (by kernel_rfl)
    (OpenClaim.moreEntering_of (by kernel_rfl) (by kernel_rfl) (by kernel_rfl) (by kernel_rfl) (by kernel_rfl) (by kernel_rfl) (by kernel_rfl) (by kernel_rfl) (by kernel_rfl) (by kernel_rfl))
    ⟨_, WideRow.started_initial, Tryf.quiet _⟩
    (fun os started _ H enc _ => injective_lifted os started H enc)

#print axioms injective_proved
end Go.Proofs.Qxb6613964aFmt
