import Derived.Test.Qxb6613964aFmtModel
import Derived.Deep.DeepCutAuto
namespace Go.Proofs.Qxb6613964aFmt
open Go.RowKit

theorem itemBytes_parts (id sg : List Int) (ts sz : Int) (r : List Int) (n m : Nat) (hn : id.length = n) (hm : sg.length = m) : itemBytes id ts sz r sg = [1, 4, (n : Int)] ++ id ++ headBytes ts sz r ++ [(m : Int) / 256, (m : Int) % 256] ++ sg := by
  subst hn
  subst hm
  simp [itemBytes]

/-- One such box. -/
theorem box1 (w : World) (v u : Value) (ts sz : Int) (r : List Int) (hr : r.length = 32) (t : TypeId) (wx : World)
    (hwx : w.alloc (.cells (itemCells v ts sz r u).toArray t) = wx) :
    Below w.heap.size w wx ∧ w.heap.size + 1 ≤ wx.heap.size ∧ (wx.cell? ⟨w.heap.size, 0, none⟩ = some v ∧ Head wx w.heap.size (0 + 1) ts sz r ∧ wx.cell? ⟨w.heap.size, 0 + 35, none⟩ = some u) := by
  have h := boxHead w v u ts sz r hr t
  subst hwx
  exact ⟨(Below.refl _ _).alloc (Nat.le_refl _) _, by simp, h⟩

set_option maxRecDepth 10000 in
set_option maxHeartbeats 1000000 in
theorem lay_walk (w : World) (a0 a1 : Option Addr) (n0 c0 n1 c1 : Nat) (id1 sg1 r1 : List Int) (ts1 sz1 : Int) (hl0 : n0 ≤ maxLen) (hl1 : n1 ≤ maxLen)
   (hr1 : r1.length = 32) (m0 : n0 ≤ 255) (m1 : n1 ≤ 65535)
   (e0 : id1.length = n0) (e1 : sg1.length = n1)
   (s0 : Src w a0 id1) (s1 : Src w a1 sg1) (d0 : a0 = none → c0 = 0) (d1 : a1 = none → c1 = 0)
   (t1 : 0 ≤ ts1) (t2 : ts1 ≤ 18446744073709551615) (t3 : 0 ≤ sz1) (t4 : sz1 ≤ 18446744073709551615) :
    Calls Tryf.prog 5 #[.slice a0 n0 c0, .int .u64 ts1, .int .u64 sz1, .agg (I r1).toArray, .slice a1 n1 c1] w fun e w' => e = .returned (.bool true) ∧ Below w.heap.size w w' := by
  obtain ⟨i0, hi, hz0, hz1, hz2⟩ := info_parts Tryf.info5
  have HR1 : Hid (r1.length = 32) := hr1
  have D0 : Hid (a0 = none → c0 = 0) := d0
  have D1 : Hid (a1 = none → c1 = 0) := d1
  have E0 : Hid (id1.length = n0) := e0
  have E1 : Hid (sg1.length = n1) := e1
  have i1 : (n0 : Int) ≤ 255 := by omega
  have i2 : (n1 : Int) ≤ 65535 := by omega
  clear d0 d1 hr1 m0 m1 e0 e1
  have HQ1 : Hid ((Tryf.prog.info? 23).map (·.size) = some (I r1).length) := by show _ = _; rw [I_length, HR1.out]; exact Tryf.info23
  have bw : Below w.heap.size w (w.alloc (.cells (I r1).toArray 23)) := (Below.refl _ _).alloc (Nat.le_refl _) _
  have g1 : (w.alloc (.cells (I r1).toArray 23)).rangeAt w.heap.size 0 (I r1) := rangeNew w r1 23
  go_enter Tryf.func5, Tryf.ntmps5
  go_wp2_with (refine wpList_load_mid rfl 23 _ rfl w.heap.size 0 rfl (I r1) _ g1 Tryf.underlying23 rfl HQ1.out ?_)
  refine (bytes13 _ a0 a1 n0 c0 n1 c1 _ _ _ hl0 hl1).mono ?_
  rintro e w1 ⟨b, rfl, hb1⟩
  replace g1 := rangeBelow g1 hb1 (by simp)
  have bw1 : Below w.heap.size w w1 := bw.trans (hb1.mono (by simp))
  have hs1 : w.heap.size + 1 ≤ w1.heap.size := by have := hb1.size; simpa using this
  clear hb1 bw
  cases b with
  | false =>
    go_wp2
    go_ret
    exact ⟨rfl, bw1⟩
  | true =>
    have hneq := fun (wx : World) (a : Option Addr) (n c : Nat) => run_neq_slice_nil_any (P := Tryf.prog) wx 22 5 a n c 0 0 Tryf.underlying22
    have s0' := s0.belowAll bw1
    go_upto_if 32 with fail
    go_cut [0] (fun s0 wx => ∃ ao co, s0 = .slice ao n0 co ∧ (ao = none → co = 0) ∧ Src wx ao id1 ∧ Below w1.heap.size w1 wx)
    case first =>
      cases a0 with
      | none =>
        go_wp2
        go_meet
        exact ⟨none, c0, rfl, fun _ => by simpa [Hid] using D0, s0', Below.refl _ _⟩
      | some ad =>
        go_wp2_with (first | (at_make; refine wpList_make_ap rfl _ _ 22 rfl w1.heap.size 5 i0 Tryf.underlying22 hi hz0 hz1 hz2 n0 rfl rfl (by omega) (Nat.le_refl _) ?_; intro w2 ho2 hg2) | (refine wpList_copy_ap rfl _ _ 22 22 rfl 5 Tryf.underlying22 Tryf.size5 w1.heap.size w1.heap.size n0 (some ad) c0 rfl rfl _ id1 (by simp) E0.out ho2 (s0'.grown hg2 (by simp)) ?_; intro w3 ho3 hg3))
        go_meet
        obtain ⟨ao, cap, hv, hsrc, hca, _⟩ := ho3.shape
        simp only [Value.slice.injEq] at hv
        obtain ⟨rfl, _, rfl⟩ := hv
        refine ⟨_, _, rfl, (fun h => by cases h), hsrc, ?_⟩
        refine ((Below.refl _ _).grown hg2 (Nat.le_refl _) (fun k hk => by cases hk)).grown hg3 hg2.size (fun k hk => ?_)
        cases hk
        exact Nat.le_refl _
    case rest =>
      obtain ⟨ao, co, rfl, hco, hso, hbo⟩ := hcut
      obtain ⟨wb, rfl⟩ : ∃ wb, wb = wc := ⟨_, rfl⟩
      have D0' : Hid (ao = none → co = 0) := hco
      have bwb : Below w.heap.size w wb := bw1.trans (hbo.mono (by omega))
      have gb1 := rangeBelow g1 hbo (by omega)
      have hsb : w.heap.size + 1 ≤ wb.heap.size := by have := hbo.size; omega
      clear hco hbo bw1 g1 hs1 s0' hneq
      go_wp2_with (first | (refine wpList_load_mid rfl 23 _ rfl w.heap.size 0 rfl (I r1) _ gb1 Tryf.underlying23 rfl HQ1.out ?_) | (refine wpList_build_at rfl 32 _ rfl #[(0, .int .u64 ts1), (1, .int .u64 sz1), (2, .agg (I r1).toArray)] rfl _ (build32 ts1 sz1 r1 HR1.out _) ?_) | (refine wpList_build_at rfl 40 _ rfl #[(0, .slice ao n0 co), (1, .agg (headCells ts1 sz1 r1).toArray), (2, .slice a1 n1 c1)] rfl _ (build40 ts1 sz1 r1 HR1.out ao a1 n0 co n1 c1 _) ?_))
      generalize hwx : wb.alloc (.cells (itemCells (.slice ao n0 co) ts1 sz1 r1 (.slice a1 n1 c1)).toArray 40) = wx
      obtain ⟨bx, hsx, ⟨k1, hh1, j1⟩⟩ := box1 wb _ _ ts1 sz1 r1 HR1.out 40 wx hwx
      clear hwx
      have gx1 := rangeBelow gb1 bx (by omega)
      have bwx : Below w.heap.size w wx := bwb.trans (bx.mono (by omega))
      have ho1 := hso.belowAll bx
      have hg1 := s1.belowAll bwx
      clear gb1 hso bwb
      refine (item_any wx wb.heap.size 0 ts1 sz1 r1 id1 sg1 ao a1 n0 n1 co c1 hh1 HR1.out t1 t2 t3 t4 k1 j1 ho1 hg1 D0'.out D1.out E0.out E1.out (by omega) (by omega)).mono ?_
      rintro e w5 ⟨v1, rfl, hw5, b5⟩
      obtain ⟨p1, q1, hv1, hp1, _, _⟩ := hw5.shape
      rw [itemBytes_length _ _ _ _ _ HR1.out, E0.out, E1.out] at hv1
      rw [hv1]
      have hh1' := hh1.below b5
      have ho1' := ho1.belowAll b5
      have hg1' := hg1.belowAll b5
      have gx1' := rangeBelow gx1 b5 (by omega)
      have bw5 : Below w.heap.size w w5 := bwx.trans (b5.mono (by have := bwx.size; omega))
      have hs5 : w.heap.size + 1 ≤ w5.heap.size := by have := b5.size; omega
      clear k1 j1 hh1 ho1 hg1 gx1 bwx hw5 hv1
      go_wp2_with fail
      refine (head_any w5 wb.heap.size (0 + 1) ts1 sz1 r1 hh1' HR1.out t1 t2 t3 t4).mono ?_
      rintro e w6 ⟨v2, rfl, hw6, b6⟩
      have HL : Hid ((headBytes ts1 sz1 r1).length = 51) := headBytes_length ts1 sz1 r1 HR1.out
      obtain ⟨p2, q2, hv2, hp2, hq2, _⟩ := hw6.shape
      have HQ2 : Hid (p2 = none → q2 = 0) := hq2
      rw [HL.out] at hv2
      rw [hv2]
      have i1' := ho1'.belowAll b6
      have i3' := hg1'.belowAll b6
      have i5' := hp1.belowAll b6
      have gx1 := rangeBelow gx1' b6 (by omega)
      have bw6 : Below w.heap.size w w6 := bw5.trans (b6.mono (by omega))
      have hs6 : w.heap.size + 1 ≤ w6.heap.size := by have := b6.size; omega
      clear hh1' ho1' hg1' gx1' bw5 hw6 hv2 hp1 b5 b6 bx hsx hq2
      go_wp2_with (refine wpList_load_mid rfl 23 _ rfl w.heap.size 0 rfl (I r1) _ gx1 Tryf.underlying23 rfl HQ1.out ?_)
      refine (model_any w6 ts1 sz1 r1 HR1.out t1 t2 t3 t4).mono ?_
      rintro e w7 ⟨v3, rfl, hw7, b7⟩
      obtain ⟨p3, q3, hv3, hp3, _, _⟩ := hw7.shape
      rw [HL.out] at hv3
      rw [hv3]
      have j1' := i1'.belowAll b7
      have j3' := i3'.belowAll b7
      have j5' := i5'.belowAll b7
      have j2' := hp2.belowAll b7
      have bw7 : Below w.heap.size w w7 := bw6.trans (b7.mono (by omega))
      clear i1' i3' i5' hp2 bw6 gx1 hw7 hv3 b7
      go_wp2_with fail
      refine (same_any _ p2 p3 q2 q3 _ _ 51 51 HL.out HL.out j2' hp3 (by decide)).mono ?_
      rintro e w8 ⟨rfl, q, rfl⟩
      rw [decide_eq_true rfl]
      have y1 := j1'.drewN q
      have y3 := j3'.drewN q
      have y5 := j5'.drewN q
      have y2 := j2'.drewN q
      have by8 := below_drewN bw7 q
      generalize w7.drewN q = W at y1 y2 y3 y5 by8 ⊢
      clear j1' j2' j3' j5' bw7 hp3
      have hnm : Hid (((56 + n0 + n1 : Nat) : Int) = 56 + (n0 : Int) + (n1 : Int)) := by show _ = _; omega
      go_wp2_with (first | (at_make; refine wpList_make_own _ rfl _ _ 22 rfl W.heap.size 5 i0 (.int .u8 0) 1 Tryf.underlying22 hi hz0 hz1 .i64 .i64 (56 + (n0 : Int) + (n1 : Int)) (56 + n0 + n1) rfl rfl hnm.out.symm (by rw [hz2]; omega) (by unfold maxLen; omega) (Nat.le_refl _) ?_; intro w9 ho9 hg9; have b9 : Below W.heap.size W w9 := (Below.refl _ _).grown hg9 (Nat.le_refl _) (fun k hk => by cases hk); have o9 : Own w9 W.heap.size 5 _ [] := ho9) | (at_builtin; refine wpList_append_ap _ rfl (.tmp 70) (.tmp 73) 22 rfl W.heap.size 5 i0 Tryf.underlying22 hi hz0 hz1 hz2 _ _ rfl (o9.alloc _) (some ⟨w9.heap.size, 0, none⟩) 3 3 [1, 4, (n0 : Int)] rfl rfl (Src.litAt (by simp) rfl) (fun h => by cases h) (by have := HL.out; have := E0.out; have := E1.out; simp <;> omega) (by have := b9.size; simp; omega) ?_; intro v10 w10 o10 a10; have b10 : Below W.heap.size W w10 := b9.trans (((Ap.alloc w9 _ _).trans a10).below b9.size (fun k hk => (o9.lt k hk).1))) | (at_builtin; refine wpList_append_ap _ rfl (.tmp 75) (.tmp 76) 22 rfl W.heap.size 5 i0 Tryf.underlying22 hi hz0 hz1 hz2 v10 _ rfl o10 ao n0 co id1 rfl E0.out.symm (y1.belowAll b10) D0'.out (by have := HL.out; have := E0.out; have := E1.out; simp <;> omega) b10.size ?_; intro v11 w11 o11 a11; have b11 : Below W.heap.size W w11 := b10.trans (a11.below b10.size (fun k hk => (o10.lt k hk).1))) | (at_builtin; refine wpList_append_ap _ rfl (.tmp 78) (.tmp 79) 22 rfl W.heap.size 5 i0 Tryf.underlying22 hi hz0 hz1 hz2 v11 _ rfl o11 p2 51 q2 (headBytes ts1 sz1 r1) rfl HL.out.symm (y2.belowAll b11) HQ2.out (by have := HL.out; have := E0.out; have := E1.out; simp <;> omega) b11.size ?_; intro v12 w12 o12 a12; have b12 : Below W.heap.size W w12 := b11.trans (a12.below b11.size (fun k hk => (o11.lt k hk).1))) | (at_builtin; refine wpList_append_ap _ rfl (.tmp 81) (.tmp 87) 22 rfl W.heap.size 5 i0 Tryf.underlying22 hi hz0 hz1 hz2 v12 _ rfl (o12.alloc _) (some ⟨w12.heap.size, 0, none⟩) 2 2 [(n1 : Int) / 256, (n1 : Int) % 256] rfl rfl (Src.litAt (by simp) rfl) (fun h => by cases h) (by have := HL.out; have := E0.out; have := E1.out; simp <;> omega) (by have := b12.size; simp; omega) ?_; intro v13 w13 o13 a13; have b13 : Below W.heap.size W w13 := b12.trans (((Ap.alloc w12 _ _).trans a13).below b12.size (fun k hk => (o12.lt k hk).1))) | (at_builtin; refine wpList_append_ap _ rfl (.tmp 89) (.tmp 90) 22 rfl W.heap.size 5 i0 Tryf.underlying22 hi hz0 hz1 hz2 v13 _ rfl o13 a1 n1 c1 sg1 rfl E1.out.symm (y3.belowAll b13) D1.out (by have := HL.out; have := E0.out; have := E1.out; simp <;> omega) b13.size ?_; intro v14 w14 o14 a14; have b14 : Below W.heap.size W w14 := b13.trans (a14.below b13.size (fun k hk => (o13.lt k hk).1))))
      obtain ⟨p9, q9, hv9, hp9, _, _⟩ := o14.shape
      have e9 : [] ++ [1, 4, (n0 : Int)] ++ id1 ++ headBytes ts1 sz1 r1 ++ [(n1 : Int) / 256, (n1 : Int) % 256] ++ sg1 = itemBytes id1 ts1 sz1 r1 sg1 := by
        rw [itemBytes_parts id1 sg1 ts1 sz1 r1 n0 n1 E0.out E1.out]
        simp
      rw [e9] at hp9 hv9
      have l9 : Hid ((itemBytes id1 ts1 sz1 r1 sg1).length = 56 + n0 + n1) := by show _ = _; rw [itemBytes_length _ _ _ _ _ HR1.out, E0.out, E1.out]
      rw [l9.out] at hv9
      rw [hv9]
      refine (same_any w14 p1 p9 q1 q9 _ _ _ _ l9.out l9.out (y5.belowAll b14) hp9 (by omega)).mono ?_
      rintro e wz ⟨rfl, qz, rfl⟩
      rw [decide_eq_true rfl]
      go_wp2
      go_ret
      exact ⟨rfl, below_drewN (by8.trans (b14.mono by8.size)) qz⟩

set_option maxRecDepth 10000 in
set_option maxHeartbeats 1000000 in
theorem lay_out (w : World) (a0 a1 : Option Addr) (n0 c0 n1 c1 : Nat) (r1 : List Int) (ts1 sz1 : Int) (hl0 : n0 ≤ maxLen) (hl1 : n1 ≤ maxLen)
   (hr1 : r1.length = 32) (hm : ¬ (n0 ≤ 255 ∧ n1 ≤ 65535)) :
    Calls Tryf.prog 5 #[.slice a0 n0 c0, .int .u64 ts1, .int .u64 sz1, .agg (I r1).toArray, .slice a1 n1 c1] w fun e w' => e = .returned (.bool true) ∧ Below w.heap.size w w' := by
  have HR1 : Hid (r1.length = 32) := hr1
  have HQ1 : Hid ((Tryf.prog.info? 23).map (·.size) = some (I r1).length) := by show _ = _; rw [I_length, HR1.out]; exact Tryf.info23
  clear hr1
  have bw : Below w.heap.size w (w.alloc (.cells (I r1).toArray 23)) := (Below.refl _ _).alloc (Nat.le_refl _) _
  have g1 : (w.alloc (.cells (I r1).toArray 23)).rangeAt w.heap.size 0 (I r1) := rangeNew w r1 23
  have h4 : (255 : Int) < n0 ∨ ((n0 : Int) ≤ 255 ∧ (65535 : Int) < n1) := by omega
  clear hm
  rcases h4 with m0 | ⟨m0, m1⟩
  all_goals
    go_enter Tryf.func5, Tryf.ntmps5
    go_wp2_with (refine wpList_load_mid rfl 23 _ rfl w.heap.size 0 rfl (I r1) _ g1 Tryf.underlying23 rfl HQ1.out ?_)
    refine (bytes13 _ a0 a1 n0 c0 n1 c1 _ _ _ hl0 hl1).mono ?_
    rintro e w1 ⟨b, rfl, hb1⟩
    have bw1 : Below w.heap.size w w1 := bw.trans (hb1.mono (by simp))
    clear hb1 bw g1
    cases b
    all_goals
      go_wp2
      go_ret
      exact ⟨rfl, bw1⟩
end Go.Proofs.Qxb6613964aFmt
