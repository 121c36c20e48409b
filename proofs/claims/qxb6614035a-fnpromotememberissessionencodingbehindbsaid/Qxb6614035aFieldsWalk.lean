import Derived.Test.Qxb6614035aCopy
namespace Go.Proofs.Qxb6614035a
open Go.RowKit

theorem field' (w : World) (ao : Option Addr) (c : Nat) (ps : List Int) (n i m k1 k2 : Nat) (hn : ps.length = n) (hp : Src w ao ps) (hln : n ≤ 1099511627776) (hm : m ≤ 131072) (hat : At ps i (uv m))
    (e1 : k1 = i + (uv m).length) (e2 : k2 = k1 + m) (hfit : k2 ≤ n) :
    Calls Try.prog 11 #[.slice ao n c, .int .i64 i] w fun e w' => e = .returned (.tuple #[.int .i64 (k1 : Int), .int .i64 (k2 : Int), .bool true]) ∧ w' = w := by
  have h := field w ao c ps n i m hn hp hln hm hat (by omega)
  rw [← e1, ← e2] at h
  exact h

theorem At.mid (a q b : List Int) (i : Nat) (hi : i = a.length) : At (a ++ (q ++ b)) i q := by
  subst hi
  refine ⟨by simp, fun j hj => ?_⟩
  simp only [List.getD_eq_getElem?_getD]
  rw [List.getElem?_append_right (by omega), show a.length + j - a.length = j by omega, List.getElem?_append_left hj]

theorem At.head (q b : List Int) : At (q ++ b) 0 q := At.mid [] q b 0 rfl

set_option maxRecDepth 10000 in
set_option maxHeartbeats 1000000 in
theorem fields_walk (w : World) (s t : ByteArray) (a : Option Addr) (n c : Nat) (zs : List Int) (hn : zs.length = n) (hz : Src w a zs) (h0 : s.size ≤ maxLen) (h1 : t.size ≤ maxLen) (h2 : n ≤ maxLen)
    (m0 : s.size ≤ 131072) (m1 : t.size ≤ 131072) (m2 : n ≤ 131072) :
    Calls Try.prog 3 #[.string s, .string t, .slice a n c] w fun e w' => e = .returned (.bool true) ∧ Below w.heap.size w w' := by
  have i0 : (s.size : Int) ≤ 131072 := by omega
  have i1 : (t.size : Int) ≤ 131072 := by omega
  have i2 : (n : Int) ≤ 131072 := by omega
  have HN : Hid (zs.length = n) := hn
  have M0 : Hid (s.size ≤ 131072) := m0
  have M1 : Hid (t.size ≤ 131072) := m1
  have M2 : Hid (n ≤ 131072) := m2
  have U0 : Hid ((uv s.size).length ≤ 3) := uv_length _
  have U1 : Hid ((uv t.size).length ≤ 3) := uv_length _
  clear hn m0 m1 m2
  go_enter Try.func3, Try.ntmps3
  go_wp2_with fail
  refine (bytes7 _ s t a n c h0 h1 h2).mono ?_
  rintro e w' ⟨b, rfl, rfl⟩
  cases b with
  | false =>
    go_wp2
    go_ret
    exact ⟨rfl, Below.refl _ _⟩
  | true =>
    go_wp2_with fail
    refine (copy_any _ a n c zs HN.out hz (by have := M2.out; omega)).mono ?_
    rintro e w1 ⟨v1, rfl, o1, b1⟩
    have z1 := b1.size
    go_wp2_with fail
    refine (enc9 _ s _ _ _ _ v1 zs _ o1 (by have := M2.out; have := HN.out; omega) z1 M0.out).mono ?_
    rintro e w2 ⟨v2, rfl, o2, a2⟩
    have b2 := b1.trans (a2.below z1 (fun k hk => (o1.lt k hk).1))
    have z2 := b2.size
    go_wp2_with fail
    refine (enc9 _ t _ _ _ _ v2 _ _ o2 (by have := M2.out; have := HN.out; have := M0.out; have := U0.out; rw [List.length_append, enc_length]; omega) z2 M1.out).mono ?_
    rintro e w3 ⟨v3, rfl, o3, a3⟩
    have b3 := b2.trans (a3.below z2 (fun k hk => (o2.lt k hk).1))
    obtain ⟨p, cap, hv, hp, hpc, _⟩ := o3.shape
    obtain ⟨k1, hk1⟩ : ∃ k1, k1 = n + (uv s.size).length := ⟨_, rfl⟩
    obtain ⟨k2, hk2⟩ : ∃ k2, k2 = k1 + s.size := ⟨_, rfl⟩
    obtain ⟨k3, hk3⟩ : ∃ k3, k3 = k2 + (uv t.size).length := ⟨_, rfl⟩
    obtain ⟨k4, hk4⟩ : ∃ k4, k4 = k3 + t.size := ⟨_, rfl⟩
    have hl : (zs ++ enc s ++ enc t).length = k4 := by rw [List.length_append, List.length_append, enc_length, enc_length, HN.out]; omega
    rw [hl] at hv
    rw [hv]
    have HL : Hid ((zs ++ enc s ++ enc t).length = k4) := hl
    have K1 : Hid (k1 = n + (uv s.size).length) := hk1
    have K2 : Hid (k2 = k1 + s.size) := hk2
    have K3 : Hid (k3 = k2 + (uv t.size).length) := hk3
    have K4 : Hid (k4 = k3 + t.size) := hk4
    have kb : k4 ≤ 1000000 := by have := M0.out; have := M1.out; have := M2.out; have := U0.out; have := U1.out; omega
    have hz3 := hz.belowAll b3
    have A1 : Hid (At (zs ++ enc s ++ enc t) n (uv s.size)) := by
      show At _ _ _
      rw [show zs ++ enc s ++ enc t = zs ++ (uv s.size ++ (bytesI s ++ enc t)) by simp [enc]]
      exact At.mid _ _ _ _ HN.out.symm
    have A2 : Hid (At (zs ++ enc s ++ enc t) k1 (bytesI s)) := by
      show At _ _ _
      rw [show zs ++ enc s ++ enc t = (zs ++ uv s.size) ++ (bytesI s ++ enc t) by simp [enc]]
      exact At.mid _ _ _ _ (by rw [List.length_append, HN.out]; exact hk1)
    have A3 : Hid (At (zs ++ enc s ++ enc t) k2 (uv t.size)) := by
      show At _ _ _
      rw [show zs ++ enc s ++ enc t = (zs ++ enc s) ++ (uv t.size ++ bytesI t) by simp [enc]]
      exact At.mid _ _ _ _ (by rw [List.length_append, enc_length, HN.out]; omega)
    have A4 : Hid (At (zs ++ enc s ++ enc t) k3 (bytesI t)) := by
      show At _ _ _
      rw [show zs ++ enc s ++ enc t = (zs ++ enc s ++ uv t.size) ++ (bytesI t ++ []) by simp [enc]]
      exact At.mid _ _ _ _ (by rw [List.length_append, List.length_append, enc_length, HN.out]; omega)
    have A0 : Hid (At (zs ++ enc s ++ enc t) 0 zs) := by
      show At _ _ _
      rw [List.append_assoc]
      exact At.head _ _
    have kn : n ≤ k4 := by omega
    have kn2 : k2 ≤ k4 := by omega
    clear hl hv hk1 hk2 hk3 hk4 o1 o2 o3 a2 a3 b1 b2 z1 z2 hz hpc
    generalize hout : zs ++ enc s ++ enc t = out at *
    clear hout
    go_wp2_with fail
    refine (hasAt w3 p a cap c out zs k4 n 0 HL.out HN.out hp hz3 (by omega) (by omega) (fun j hj => A0.out.2 j (by rw [HN.out]; exact hj))).mono ?_
    rintro e w4 ⟨rfl, q4, rfl⟩
    go_wp2_with fail
    refine (field' _ p cap out k4 n s.size k1 k2 HL.out (hp.drewN q4) (by omega) M0.out A1.out K1.out K2.out kn2).mono ?_
    rintro e w5 ⟨rfl, rfl⟩
    go_wp2_with fail
    refine (eqStr _ p cap out k4 k1 k2 s HL.out (hp.drewN q4) (by omega) K2.out kn2 (fun k hk => A2.out.2 k (by rw [bytesI_length]; exact hk))).mono ?_
    rintro e w6 ⟨rfl, q6, rfl⟩
    go_wp2_with fail
    refine (field' _ p cap out k4 k2 t.size k3 k4 HL.out (hp.drewN _) (by omega) M1.out A3.out K3.out K4.out (Nat.le_refl _)).mono ?_
    rintro e w7 ⟨rfl, rfl⟩
    go_wp2_with fail
    refine (eqStr _ p cap out k4 k3 k4 t HL.out (hp.drewN _) (by omega) K4.out (Nat.le_refl _) (fun k hk => A4.out.2 k (by rw [bytesI_length]; exact hk))).mono ?_
    rintro e w8 ⟨rfl, q8, rfl⟩
    go_wp2
    go_ret
    exact ⟨rfl, below_drewN b3 _⟩

set_option maxRecDepth 10000 in
set_option maxHeartbeats 1000000 in
theorem fields_out (w : World) (s t : ByteArray) (a : Option Addr) (n c : Nat) (h0 : s.size ≤ maxLen) (h1 : t.size ≤ maxLen) (h2 : n ≤ maxLen)
    (hm : ¬ (s.size ≤ 131072 ∧ t.size ≤ 131072 ∧ n ≤ 131072)) :
    Calls Try.prog 3 #[.string s, .string t, .slice a n c] w fun e w' => e = .returned (.bool true) ∧ Below w.heap.size w w' := by
  have h4 : (131072 : Int) < s.size ∨ ((s.size : Int) ≤ 131072 ∧ (131072 : Int) < t.size) ∨ ((s.size : Int) ≤ 131072 ∧ (t.size : Int) ≤ 131072 ∧ (131072 : Int) < n) := by omega
  clear hm
  rcases h4 with m0 | ⟨m0, m1⟩ | ⟨m0, m1, m2⟩
  all_goals
    go_enter Try.func3, Try.ntmps3
    go_wp2_with fail
    refine (bytes7 _ s t a n c h0 h1 h2).mono ?_
    rintro e w' ⟨b, rfl, rfl⟩
    cases b
    all_goals
      go_wp2
      go_ret
      exact ⟨rfl, Below.refl _ _⟩
end Go.Proofs.Qxb6614035a
