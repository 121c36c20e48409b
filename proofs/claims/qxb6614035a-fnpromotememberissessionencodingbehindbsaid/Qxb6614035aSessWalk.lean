import Derived.Test.Qxb6614035aFieldsWalk
import Derived.Deep.DeepCutAuto
namespace Go.Proofs.Qxb6614035a
open Go.RowKit

set_option maxRecDepth 10000 in
set_option maxHeartbeats 1000000 in
theorem sess_walk (w : World) (s t : ByteArray) (ak a : Option Addr) (nk ck n c : Nat) (ks zs : List Int) (hnk : ks.length = nk) (hn : zs.length = n) (hk : Src w ak ks) (hz : Src w a zs)
    (h0 : s.size ≤ maxLen) (h1 : t.size ≤ maxLen) (h2 : nk ≤ maxLen) (h3 : n ≤ maxLen)
    (m0 : s.size ≤ 131072) (m1 : t.size ≤ 131072) (m2 : nk ≤ 131072) (m3 : n ≤ 131072) :
    Calls Try.prog 4 #[.string s, .string t, .slice ak nk ck, .slice a n c] w fun e w' => e = .returned (.bool true) ∧ Below w.heap.size w w' := by
  obtain ⟨i0, hi, hz0, hz1, hz2⟩ := info_parts Try.info5
  have j0 : (s.size : Int) ≤ 131072 := by omega
  have j1 : (t.size : Int) ≤ 131072 := by omega
  have j2 : (nk : Int) ≤ 131072 := by omega
  have j3 : (n : Int) ≤ 131072 := by omega
  have HN : Hid (zs.length = n) := hn
  have HK : Hid (ks.length = nk) := hnk
  have M0 : Hid (s.size ≤ 131072) := m0
  have M2 : Hid (nk ≤ 131072) := m2
  have M3 : Hid (n ≤ 131072) := m3
  have U0 : Hid ((uv s.size).length ≤ 3) := uv_length _
  clear hn hnk m0 m1 m2 m3
  go_enter Try.func4, Try.ntmps4
  go_wp2_with fail
  refine (bytes13 _ s t ak a nk ck n c h0 h1 h2 h3).mono ?_
  rintro e w' ⟨b, rfl, hw⟩
  subst hw
  cases b with
  | false =>
    go_wp2
    go_ret
    exact ⟨rfl, Below.refl _ _⟩
  | true =>
    have hneq := fun (wx : World) (a : Option Addr) (n c : Nat) => run_neq_slice_nil_any (P := Try.prog) wx 22 5 a n c 0 0 Try.underlying22
    go_upto_if 35 with fail
    go_cut [2] (fun s2 wx => ∃ ao co, s2 = .slice ao nk co ∧ Below w'.heap.size w' wx)
    case first =>
      cases ak with
      | none =>
        go_wp2
        go_meet
        exact ⟨none, ck, rfl, Below.refl _ _⟩
      | some ad =>
        go_wp2_with (first | (at_make; refine wpList_make_ap rfl _ _ 22 rfl w'.heap.size 5 i0 Try.underlying22 hi hz0 hz1 hz2 nk rfl rfl (by have := M2.out; omega) (Nat.le_refl _) ?_; intro w2 ho2 hg2) | (refine wpList_copy_ap rfl _ _ 22 22 rfl 5 Try.underlying22 Try.size5 w'.heap.size w'.heap.size nk (some ad) ck rfl rfl _ ks (by simp) HK.out ho2 (hk.grown hg2 (by simp)) ?_; intro w3 ho3 hg3))
        go_meet
        refine ⟨_, _, rfl, ?_⟩
        refine ((Below.refl _ _).grown hg2 (Nat.le_refl _) (fun k hk => by cases hk)).grown hg3 hg2.size (fun k hk => ?_)
        cases hk
        exact Nat.le_refl _
    case rest =>
      obtain ⟨ao, co, rfl, hbo⟩ := hcut
      obtain ⟨wb, rfl⟩ : ∃ wb, wb = wc := ⟨_, rfl⟩
      have hzb := hz.belowAll hbo
      have zb := hbo.size
      clear hneq hk
      go_wp2_with fail
      refine (copy_any _ a n c zs HN.out hzb (by have := M3.out; omega)).mono ?_
      rintro e w1 ⟨v1, rfl, o1, b1⟩
      have z1 := b1.size
      go_wp2_with fail
      refine (enc9 _ s t ao nk co v1 zs _ o1 (by have := M3.out; have := HN.out; omega) z1 M0.out).mono ?_
      rintro e w2 ⟨v2, rfl, o2, a2⟩
      have b2 := b1.trans (a2.below z1 (fun k hk => (o1.lt k hk).1))
      have z2 := b2.size
      obtain ⟨p, cap, hv, hp, _, _⟩ := o2.shape
      have hl2 : (zs ++ enc s).length = n + ((uv s.size).length + s.size) := by rw [List.length_append, enc_length, HN.out]
      obtain ⟨L, hL⟩ : ∃ L, L = (uv s.size).length + s.size := ⟨_, rfl⟩
      rw [← hL] at hl2
      rw [hl2] at hv
      rw [hv]
      have HL : Hid (L = (uv s.size).length + s.size) := hL
      have HL2 : Hid ((zs ++ enc s).length = n + L) := hl2
      have HL1 : Hid ((enc s).length = L) := by show _ = _; rw [enc_length, hL]
      clear hL hl2 hv o1 a2
      go_wp2_with fail
      refine (enc9 _ s t ao nk co (.slice none 0 0) [] w2.heap.size (Own.nil _ _ _) (by simp) (Nat.le_refl _) M0.out).mono ?_
      rintro e w3 ⟨v3, rfl, o3, a3⟩
      have b3 : Below w2.heap.size w2 w3 := a3.below (Nat.le_refl _) (fun k hk => by cases hk)
      obtain ⟨p3, cap3, hv3, hp3, _, _⟩ := o3.shape
      rw [List.nil_append] at hv3 hp3
      rw [HL1.out] at hv3
      rw [hv3]
      have hp' := hp.belowAll b3
      have z3 := b3.size
      clear hp hv3 o3 a3
      go_wp2_with fail
      refine (enc14 _ s (.slice none 0 0) [] w3.heap.size (Own.nil _ _ _) (by simp) (Nat.le_refl _) M0.out).mono ?_
      rintro e w4 ⟨v4, rfl, o4, a4⟩
      have b4 : Below w3.heap.size w3 w4 := a4.below (Nat.le_refl _) (fun k hk => by cases hk)
      obtain ⟨p4, cap4, hv4, hp4, _, _⟩ := o4.shape
      rw [List.nil_append] at hv4 hp4
      rw [HL1.out] at hv4
      rw [hv4]
      have hp2 := hp'.belowAll b4
      have hp3' := hp3.belowAll b4
      have bw : Below w'.heap.size w' w4 := hbo.trans ((b2.mono zb).trans ((b3.mono (by omega)).trans (b4.mono (by omega))))
      have hz4 := hz.belowAll bw
      have kb : L ≤ 140000 := by have := M0.out; have := U0.out; have := HL.out; omega
      have kn : n ≤ 131072 := M3.out
      clear hp' hp3 hv4 o4 a4 b1 b2 b3 b4 hbo hzb z1 z2 z3 zb o2 hz
      have A0 : Hid (At (zs ++ enc s) 0 zs) := At.head _ _
      have A1 : Hid (At (zs ++ enc s) n (enc s)) := by
        show At _ _ _
        rw [show zs ++ enc s = zs ++ (enc s ++ []) by simp]
        exact At.mid _ _ _ _ HN.out.symm
      obtain ⟨k1, hk1⟩ : ∃ k1, k1 = 0 + (uv s.size).length := ⟨_, rfl⟩
      have K1 : Hid (k1 = 0 + (uv s.size).length) := hk1
      have K2 : Hid (L = k1 + s.size) := by show _ = _; have := HL.out; omega
      have A2 : Hid (At (enc s) 0 (uv s.size)) := At.head _ _
      have A3 : Hid (At (enc s) k1 (bytesI s)) := by
        show At _ _ _
        rw [show enc s = uv s.size ++ (bytesI s ++ []) by simp [enc]]
        exact At.mid _ _ _ _ (by omega)
      clear hk1
      generalize zs ++ enc s = out at *
      generalize enc s = es at *
      go_wp2_with fail
      refine (same_true w4 p3 p4 cap3 cap4 es L HL1.out hp3' hp4 (by omega)).mono ?_
      rintro e w5 ⟨rfl, q5, rfl⟩
      go_wp2_with fail
      refine (hasAt _ p a cap c out zs (n + L) n 0 HL2.out HN.out (hp2.drewN _) (hz4.drewN _) (by omega) (by omega) (fun j hj => A0.out.2 j (by rw [HN.out]; exact hj))).mono ?_
      rintro e w6 ⟨rfl, q6, rfl⟩
      go_wp2_with fail
      refine (hasAt _ p p3 cap cap3 out es (n + L) L n HL2.out HL1.out (hp2.drewN _) (hp3'.drewN _) (by omega) (by omega) (fun j hj => A1.out.2 j (by rw [HL1.out]; exact hj))).mono ?_
      rintro e w7 ⟨rfl, q7, rfl⟩
      go_wp2_with fail
      refine (field' _ p3 cap3 es L 0 s.size k1 L HL1.out (hp3'.drewN _) (by omega) M0.out A2.out K1.out K2.out (Nat.le_refl _)).mono ?_
      rintro e w8 ⟨rfl, rfl⟩
      go_wp2_with fail
      refine (eqStr _ p3 cap3 es L k1 L s HL1.out (hp3'.drewN _) (by omega) K2.out (Nat.le_refl _) (fun k hk => A3.out.2 k (by rw [bytesI_length]; exact hk))).mono ?_
      rintro e w9 ⟨rfl, q9, rfl⟩
      go_wp2
      go_ret
      exact ⟨rfl, below_drewN bw _⟩

set_option maxRecDepth 10000 in
set_option maxHeartbeats 1000000 in
theorem sess_out (w : World) (s t : ByteArray) (ak a : Option Addr) (nk ck n c : Nat)
    (h0 : s.size ≤ maxLen) (h1 : t.size ≤ maxLen) (h2 : nk ≤ maxLen) (h3 : n ≤ maxLen)
    (hm : ¬ (s.size ≤ 131072 ∧ t.size ≤ 131072 ∧ nk ≤ 131072 ∧ n ≤ 131072)) :
    Calls Try.prog 4 #[.string s, .string t, .slice ak nk ck, .slice a n c] w fun e w' => e = .returned (.bool true) ∧ Below w.heap.size w w' := by
  have h4 : (131072 : Int) < s.size ∨ ((s.size : Int) ≤ 131072 ∧ (131072 : Int) < t.size) ∨ ((s.size : Int) ≤ 131072 ∧ (t.size : Int) ≤ 131072 ∧ (131072 : Int) < nk) ∨ ((s.size : Int) ≤ 131072 ∧ (t.size : Int) ≤ 131072 ∧ (nk : Int) ≤ 131072 ∧ (131072 : Int) < n) := by omega
  clear hm
  rcases h4 with m0 | ⟨m0, m1⟩ | ⟨m0, m1, m2⟩ | ⟨m0, m1, m2, m3⟩
  all_goals
    go_enter Try.func4, Try.ntmps4
    go_wp2_with fail
    refine (bytes13 _ s t ak a nk ck n c h0 h1 h2 h3).mono ?_
    rintro e w' ⟨b, rfl, rfl⟩
    cases b
    all_goals
      go_wp2
      go_ret
      exact ⟨rfl, Below.refl _ _⟩
end Go.Proofs.Qxb6614035a
