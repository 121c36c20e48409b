import Derived.Test.Qxb6613964aFmtBuild
import Derived.Deep.DeepCutAuto
namespace Go.Proofs.Qxb6613964aFmt
open Go.RowKit

set_option maxRecDepth 10000 in
set_option maxHeartbeats 1000000 in
theorem inj_walk (w : World) (a0 a1 a2 a3 : Option Addr) (n0 c0 n1 c1 n2 c2 n3 c3 : Nat) (id1 sg1 id2 sg2 r1 r2 : List Int) (ts1 sz1 ts2 sz2 : Int) (hl0 : n0 ≤ maxLen) (hl1 : n1 ≤ maxLen) (hl2 : n2 ≤ maxLen) (hl3 : n3 ≤ maxLen)
   (hr1 : r1.length = 32) (hr2 : r2.length = 32) (m0 : n0 ≤ 255) (m1 : n1 ≤ 65535) (m2 : n2 ≤ 255) (m3 : n3 ≤ 65535)
   (e0 : id1.length = n0) (e1 : sg1.length = n1) (e2 : id2.length = n2) (e3 : sg2.length = n3)
   (s0 : Src w a0 id1) (s1 : Src w a1 sg1) (s2 : Src w a2 id2) (s3 : Src w a3 sg2) (d0 : a0 = none → c0 = 0) (d1 : a1 = none → c1 = 0) (d2 : a2 = none → c2 = 0) (d3 : a3 = none → c3 = 0)
   (t1 : 0 ≤ ts1) (t2 : ts1 ≤ 18446744073709551615) (t3 : 0 ≤ sz1) (t4 : sz1 ≤ 18446744073709551615) (t5 : 0 ≤ ts2) (t6 : ts2 ≤ 18446744073709551615) (t7 : 0 ≤ sz2) (t8 : sz2 ≤ 18446744073709551615) :
    Calls Tryf.prog 6 #[.slice a0 n0 c0, .int .u64 ts1, .int .u64 sz1, .agg (I r1).toArray, .slice a1 n1 c1, .slice a2 n2 c2, .int .u64 ts2, .int .u64 sz2, .agg (I r2).toArray, .slice a3 n3 c3] w fun e w' => e = .returned (.bool true) ∧ Below w.heap.size w w' := by
  obtain ⟨i0, hi, hz0, hz1, hz2⟩ := info_parts Tryf.info5
  have HR1 : Hid (r1.length = 32) := hr1
  have HR2 : Hid (r2.length = 32) := hr2
  have D0 : Hid (a0 = none → c0 = 0) := d0
  have D1 : Hid (a1 = none → c1 = 0) := d1
  have D2 : Hid (a2 = none → c2 = 0) := d2
  have D3 : Hid (a3 = none → c3 = 0) := d3
  have E0 : Hid (id1.length = n0) := e0
  have E1 : Hid (sg1.length = n1) := e1
  have E2 : Hid (id2.length = n2) := e2
  have E3 : Hid (sg2.length = n3) := e3
  have i1 : (n0 : Int) ≤ 255 := by omega
  have i2 : (n1 : Int) ≤ 65535 := by omega
  have i3 : (n2 : Int) ≤ 255 := by omega
  have i4 : (n3 : Int) ≤ 65535 := by omega
  clear d0 d1 d2 d3 hr1 hr2 m0 m1 m2 m3 e0 e1 e2 e3
  have HQ1 : Hid ((Tryf.prog.info? 23).map (·.size) = some (I r1).length) := by show _ = _; rw [I_length, HR1.out]; exact Tryf.info23
  have HQ2 : Hid ((Tryf.prog.info? 23).map (·.size) = some (I r2).length) := by show _ = _; rw [I_length, HR2.out]; exact Tryf.info23
  go_enter Tryf.func6, Tryf.ntmps6
  have bw : Below w.heap.size w ((w.alloc (.cells (I r1).toArray 23)).alloc (.cells (I r2).toArray 23)) := ((Below.refl _ _).alloc (Nat.le_refl _) _).alloc (by simp) _
  have g1 : ((w.alloc (.cells (I r1).toArray 23)).alloc (.cells (I r2).toArray 23)).rangeAt w.heap.size 0 (I r1) := rangeBelow (rangeNew w r1 23) ((Below.refl _ _).alloc (Nat.le_refl _) _) (by simp)
  have g2 : ((w.alloc (.cells (I r1).toArray 23)).alloc (.cells (I r2).toArray 23)).rangeAt (w.heap.size + 1) 0 (I r2) := by simpa using rangeNew (w.alloc (.cells (I r1).toArray 23)) r2 23
  go_wp2_with (first | (refine wpList_load_mid rfl 23 _ rfl w.heap.size 0 rfl (I r1) _ g1 Tryf.underlying23 rfl HQ1.out ?_) | (refine wpList_load_mid rfl 23 _ rfl (w.heap.size + 1) 0 rfl (I r2) _ g2 Tryf.underlying23 rfl HQ2.out ?_))
  refine (bytes15 _ a0 a1 a2 a3 n0 c0 n1 c1 n2 c2 n3 c3 _ _ _ _ _ _ hl0 hl1 hl2 hl3).mono ?_
  rintro e w1 ⟨b, rfl, hb1⟩
  replace g1 := rangeBelow g1 hb1 (by simp; omega)
  replace g2 := rangeBelow g2 hb1 (by simp)
  have bw1 : Below w.heap.size w w1 := bw.trans (hb1.mono (by simp; omega))
  have hs1 : w.heap.size + 1 + 1 ≤ w1.heap.size := by have := hb1.size; simpa using this
  clear hb1 bw
  cases b with
  | false =>
    go_wp2
    go_ret
    exact ⟨rfl, bw1⟩
  | true =>
    have hneq := fun (wx : World) (a : Option Addr) (n c : Nat) => run_neq_slice_nil_any (P := Tryf.prog) wx 22 5 a n c 0 0 Tryf.underlying22
    have s0' := s0.belowAll bw1
    go_upto_if 53 with fail
    go_cut [0] (fun s0 wx => ∃ ao co, s0 = .slice ao n0 co ∧ (ao = none → co = 0) ∧ Src wx ao id1 ∧ Below w1.heap.size w1 wx)
    case first =>
      cases a0 with
      | none =>
        go_wp2
        go_meet
        exact ⟨none, c0, rfl, fun _ => by simpa [Hid] using D0, s0', Below.refl _ _⟩
      | some ad =>
        go_wp2_with (first | (at_make; refine wpList_make_ap rfl _ _ 22 rfl w1.heap.size 5 i0 Tryf.underlying22 hi hz0 hz1 hz2 n0 rfl rfl (by omega) (Nat.le_refl _) ?_; intro w2 ho2 hg2) | (refine wpList_copy_ap rfl _ _ 22 22 rfl 5 Tryf.underlying22 Tryf.size5 w1.heap.size w1.heap.size n0 (some ad) c0 rfl rfl _ id1 (by simp) E0.out ho2 (s0'.grown hg2 (by simp)) ?_; intro w3 ho3 hg3))
        go_meet
        obtain ⟨ao, cap, hv, hsrc, hca, _⟩ := ho3.shape
        simp only [Value.slice.injEq] at hv
        obtain ⟨rfl, _, rfl⟩ := hv
        refine ⟨_, _, rfl, (fun h => by cases h), hsrc, ?_⟩
        refine ((Below.refl _ _).grown hg2 (Nat.le_refl _) (fun k hk => by cases hk)).grown hg3 hg2.size (fun k hk => ?_)
        cases hk
        exact Nat.le_refl _
    case rest =>
      obtain ⟨ao, co, rfl, hco, hso, hbo⟩ := hcut
      obtain ⟨wa, rfl⟩ : ∃ wa, wa = wc := ⟨_, rfl⟩
      have D0' : Hid (ao = none → co = 0) := hco
      have bwc : Below w.heap.size w wa := bw1.trans (hbo.mono (by omega))
      have gc1 := rangeBelow g1 hbo (by omega)
      have gc2 := rangeBelow g2 hbo (by omega)
      have hsc : w.heap.size + 1 + 1 ≤ wa.heap.size := by have := hbo.size; omega
      have s2' := s2.belowAll bwc
      clear hco hbo bw1 g1 g2 hs1 s0'
      go_upto_if 62 with fail
      go_cut [5] (fun s5 wx => ∃ ao co, s5 = .slice ao n2 co ∧ (ao = none → co = 0) ∧ Src wx ao id2 ∧ Below wa.heap.size wa wx)
      case first =>
        cases a2 with
        | none =>
          go_wp2
          go_meet
          exact ⟨none, c2, rfl, fun _ => by simpa [Hid] using D2, s2', Below.refl _ _⟩
        | some ad =>
          go_wp2_with (first | (at_make; refine wpList_make_ap rfl _ _ 22 rfl wa.heap.size 5 i0 Tryf.underlying22 hi hz0 hz1 hz2 n2 rfl rfl (by omega) (Nat.le_refl _) ?_; intro w2 ho2 hg2) | (refine wpList_copy_ap rfl _ _ 22 22 rfl 5 Tryf.underlying22 Tryf.size5 wa.heap.size wa.heap.size n2 (some ad) c2 rfl rfl _ id2 (by simp) E2.out ho2 (s2'.grown hg2 (by simp)) ?_; intro w3 ho3 hg3))
          go_meet
          obtain ⟨ao, cap, hv, hsrc, hca, _⟩ := ho3.shape
          simp only [Value.slice.injEq] at hv
          obtain ⟨rfl, _, rfl⟩ := hv
          refine ⟨_, _, rfl, (fun h => by cases h), hsrc, ?_⟩
          refine ((Below.refl _ _).grown hg2 (Nat.le_refl _) (fun k hk => by cases hk)).grown hg3 hg2.size (fun k hk => ?_)
          cases hk
          exact Nat.le_refl _
      case rest =>
        obtain ⟨bo, do', rfl, hdo, hso2, hbo⟩ := hcut
        have D2' : Hid (bo = none → do' = 0) := hdo
        obtain ⟨wb, rfl⟩ : ∃ wb, wb = wc := ⟨_, rfl⟩
        have bwb : Below w.heap.size w wb := bwc.trans (hbo.mono (by omega))
        have gb1 := rangeBelow gc1 hbo (by omega)
        have gb2 := rangeBelow gc2 hbo (by omega)
        have hsb : w.heap.size + 1 + 1 ≤ wb.heap.size := by have := hbo.size; omega
        have hso' := hso.belowAll hbo
        clear hdo hbo bwc gc1 gc2 hsc hso s2' hneq
        have bx1 : Below wb.heap.size wb (wb.alloc (.cells (itemCells (.slice ao n0 co) ts1 sz1 r1 (.slice a1 n1 c1)).toArray 40)) := (Below.refl _ _).alloc (Nat.le_refl _) _
        have gx2 := rangeBelow gb2 bx1 (by omega)
        go_wp2_with (first | (refine wpList_load_mid rfl 23 _ rfl w.heap.size 0 rfl (I r1) _ gb1 Tryf.underlying23 rfl HQ1.out ?_) | (refine wpList_load_mid rfl 23 _ rfl (w.heap.size + 1) 0 rfl (I r2) _ gx2 Tryf.underlying23 rfl HQ2.out ?_) | (refine wpList_build_at rfl 32 _ rfl #[(0, .int .u64 ts1), (1, .int .u64 sz1), (2, .agg (I r1).toArray)] rfl _ (build32 ts1 sz1 r1 HR1.out _) ?_) | (refine wpList_build_at rfl 40 _ rfl #[(0, .slice ao n0 co), (1, .agg (headCells ts1 sz1 r1).toArray), (2, .slice a1 n1 c1)] rfl _ (build40 ts1 sz1 r1 HR1.out ao a1 n0 co n1 c1 _) ?_) | (refine wpList_build_at rfl 32 _ rfl #[(0, .int .u64 ts2), (1, .int .u64 sz2), (2, .agg (I r2).toArray)] rfl _ (build32 ts2 sz2 r2 HR2.out _) ?_) | (refine wpList_build_at rfl 40 _ rfl #[(0, .slice bo n2 do'), (1, .agg (headCells ts2 sz2 r2).toArray), (2, .slice a3 n3 c3)] rfl _ (build40 ts2 sz2 r2 HR2.out bo a3 n2 do' n3 c3 _) ?_))
        generalize hwx : (wb.alloc (.cells (itemCells (.slice ao n0 co) ts1 sz1 r1 (.slice a1 n1 c1)).toArray 40)).alloc (.cells (itemCells (.slice bo n2 do') ts2 sz2 r2 (.slice a3 n3 c3)).toArray 40) = wx
        obtain ⟨bx, hsx, ⟨k1, hh1, j1⟩, ⟨k2, hh2, j2⟩⟩ := boxes wb _ _ _ _ ts1 sz1 ts2 sz2 r1 r2 HR1.out HR2.out 40 wx hwx
        clear hwx bx1 gx2
        have gx1 := rangeBelow gb1 bx (by omega)
        have gx2 := rangeBelow gb2 bx (by omega)
        have bwx : Below w.heap.size w wx := bwb.trans (bx.mono (by omega))
        have ho1 := hso'.belowAll bx
        have ho2 := hso2.belowAll bx
        have hg1 := s1.belowAll bwx
        have hg2 := s3.belowAll bwx
        clear gb1 gb2 hso' hso2 bwb
        refine (item_any wx wb.heap.size 0 ts1 sz1 r1 id1 sg1 ao a1 n0 n1 co c1 hh1 HR1.out t1 t2 t3 t4 k1 j1 ho1 hg1 D0'.out D1.out E0.out E1.out (by omega) (by omega)).mono ?_
        rintro e w5 ⟨v1, rfl, hw5, b5⟩
        obtain ⟨p1, q1, hv1, hp1, _, _⟩ := hw5.shape
        rw [itemBytes_length _ _ _ _ _ HR1.out, E0.out, E1.out] at hv1
        rw [hv1]
        have k2' : w5.cell? ⟨wb.heap.size + 1, 0, none⟩ = some (.slice bo n2 do') := by rw [b5.cell (p := ⟨wb.heap.size + 1, 0, none⟩) (by show wb.heap.size + 1 < _; omega)]; exact k2
        have j2' : w5.cell? ⟨wb.heap.size + 1, 0 + 35, none⟩ = some (.slice a3 n3 c3) := by rw [b5.cell (p := ⟨wb.heap.size + 1, 0 + 35, none⟩) (by show wb.heap.size + 1 < _; omega)]; exact j2
        have hh2' := hh2.below b5
        have ho1' := ho1.belowAll b5
        have ho2' := ho2.belowAll b5
        have hg1' := hg1.belowAll b5
        have hg2' := hg2.belowAll b5
        have gx1' := rangeBelow gx1 b5 (by omega)
        have gx2' := rangeBelow gx2 b5 (by omega)
        have bw5 : Below w.heap.size w w5 := bwx.trans (b5.mono (by have := bwx.size; omega))
        have hs5 : w.heap.size + 1 + 1 ≤ w5.heap.size := by have := b5.size; omega
        clear k1 k2 j1 j2 hh1 hh2 ho1 ho2 hg1 hg2 gx1 gx2 bwx hw5 hv1
        go_wp2_with fail
        refine (item_any w5 (wb.heap.size + 1) 0 ts2 sz2 r2 id2 sg2 bo a3 n2 n3 do' c3 hh2' HR2.out t5 t6 t7 t8 k2' j2' ho2' hg2' D2'.out D3.out E2.out E3.out (by omega) (by omega)).mono ?_
        rintro e w6 ⟨v2, rfl, hw6, b6⟩
        obtain ⟨p2, q2, hv2, hp2, _, _⟩ := hw6.shape
        rw [itemBytes_length _ _ _ _ _ HR2.out, E2.out, E3.out] at hv2
        rw [hv2]
        have i1' := ho1'.belowAll b6
        have i2' := ho2'.belowAll b6
        have i3' := hg1'.belowAll b6
        have i4' := hg2'.belowAll b6
        have i5' := hp1.belowAll b6
        have gx1 := rangeBelow gx1' b6 (by omega)
        have gx2 := rangeBelow gx2' b6 (by omega)
        have bw6 : Below w.heap.size w w6 := bw5.trans (b6.mono (by omega))
        clear k2' j2' hh2' ho1' ho2' hg1' hg2' gx1' gx2' bw5 hw6 hv2 hp1 b5 b6 bx hsx
        go_wp2_with fail
        refine (same_any w6 ao bo co do' id1 id2 n0 n2 E0.out E2.out i1' i2' (by omega)).mono ?_
        rintro e w' ⟨rfl, q, rfl⟩
        have HF : Hid (decide (itemBytes id1 ts1 sz1 r1 sg1 = itemBytes id2 ts2 sz2 r2 sg2) = (decide (id1 = id2) && ((ts1 == ts2) && ((sz1 == sz2) && (decide (r1 = r2) && decide (sg1 = sg2)))))) := by
          show _ = _
          rw [Bool.eq_iff_iff]
          simp only [Bool.and_eq_true, decide_eq_true_eq, beq_iff_eq]
          constructor
          · intro h
            obtain ⟨x1, x2, x3, x4, x5⟩ := itemBytes_inj HR1.out HR2.out h
            exact ⟨x1, x2, x3, x4, x5⟩
          · rintro ⟨x1, x2, x3, x4, x5⟩
            rw [x1, x2, x3, x4, x5]
        have HE : Hid (∀ wz, (Op.equalIn 10000 23 (.agg (I r1).toArray) (.agg (I r2).toArray)).run Tryf.prog wz = .ok (decide (r1 = r2)) wz) := fun wz => eql23 wz r1 r2 HR1.out HR2.out
        cases hq1 : decide (id1 = id2) with
        | false =>
          have HF' : Hid (decide (itemBytes id1 ts1 sz1 r1 sg1 = itemBytes id2 ts2 sz2 r2 sg2) = false) := by show _ = _; rw [HF.out, hq1]; rfl
          go_wp2_with fail
          refine (same_any _ p1 p2 q1 q2 _ _ _ _ (by rw [itemBytes_length _ _ _ _ _ HR1.out, E0.out, E1.out]) (by rw [itemBytes_length _ _ _ _ _ HR2.out, E2.out, E3.out]) (i5'.drewN _) (hp2.drewN _) (by omega)).mono ?_
          rintro e w' ⟨rfl, qz, rfl⟩
          rw [HF'.out]
          go_wp2
          go_ret
          exact ⟨rfl, below_drewN bw6 _⟩
        | true =>
          cases hq2 : (ts1 == ts2) with
          | false =>
            have HF' : Hid (decide (itemBytes id1 ts1 sz1 r1 sg1 = itemBytes id2 ts2 sz2 r2 sg2) = false) := by show _ = _; rw [HF.out, hq1, hq2]; rfl
            go_wp2_with fail
            refine (same_any _ p1 p2 q1 q2 _ _ _ _ (by rw [itemBytes_length _ _ _ _ _ HR1.out, E0.out, E1.out]) (by rw [itemBytes_length _ _ _ _ _ HR2.out, E2.out, E3.out]) (i5'.drewN _) (hp2.drewN _) (by omega)).mono ?_
            rintro e w' ⟨rfl, qz, rfl⟩
            rw [HF'.out]
            go_wp2
            go_ret
            exact ⟨rfl, below_drewN bw6 _⟩
          | true =>
            cases hq3 : (sz1 == sz2) with
            | false =>
              have HF' : Hid (decide (itemBytes id1 ts1 sz1 r1 sg1 = itemBytes id2 ts2 sz2 r2 sg2) = false) := by show _ = _; rw [HF.out, hq1, hq2, hq3]; rfl
              go_wp2_with fail
              refine (same_any _ p1 p2 q1 q2 _ _ _ _ (by rw [itemBytes_length _ _ _ _ _ HR1.out, E0.out, E1.out]) (by rw [itemBytes_length _ _ _ _ _ HR2.out, E2.out, E3.out]) (i5'.drewN _) (hp2.drewN _) (by omega)).mono ?_
              rintro e w' ⟨rfl, qz, rfl⟩
              rw [HF'.out]
              go_wp2
              go_ret
              exact ⟨rfl, below_drewN bw6 _⟩
            | true =>
              have he := HE.out
              cases hq4 : decide (r1 = r2) with
              | false =>
                have HF' : Hid (decide (itemBytes id1 ts1 sz1 r1 sg1 = itemBytes id2 ts2 sz2 r2 sg2) = false) := by show _ = _; rw [HF.out, hq1, hq2, hq3, hq4]; rfl
                rw [hq4] at he
                go_wp2_with (first | (refine wpList_load_want rfl 23 _ rfl w.heap.size 0 rfl (I r1) _ gx1 Tryf.underlying23 rfl HQ1.out ?_) | (refine wpList_load_want rfl 23 _ rfl (w.heap.size + 1) 0 rfl (I r2) _ gx2 Tryf.underlying23 rfl HQ2.out ?_))
                refine (same_any _ p1 p2 q1 q2 _ _ _ _ (by rw [itemBytes_length _ _ _ _ _ HR1.out, E0.out, E1.out]) (by rw [itemBytes_length _ _ _ _ _ HR2.out, E2.out, E3.out]) (i5'.drewN _) (hp2.drewN _) (by omega)).mono ?_
                rintro e w' ⟨rfl, qz, rfl⟩
                rw [HF'.out]
                go_wp2
                go_ret
                exact ⟨rfl, below_drewN bw6 _⟩
              | true =>
                rw [hq4] at he
                go_wp2_with (first | (refine wpList_load_want rfl 23 _ rfl w.heap.size 0 rfl (I r1) _ gx1 Tryf.underlying23 rfl HQ1.out ?_) | (refine wpList_load_want rfl 23 _ rfl (w.heap.size + 1) 0 rfl (I r2) _ gx2 Tryf.underlying23 rfl HQ2.out ?_))
                refine (same_any _ a1 a3 c1 c3 sg1 sg2 n1 n3 E1.out E3.out (i3'.drewN _) (i4'.drewN _) (by omega)).mono ?_
                rintro e w' ⟨rfl, qy, rfl⟩
                have HF' : Hid (decide (itemBytes id1 ts1 sz1 r1 sg1 = itemBytes id2 ts2 sz2 r2 sg2) = decide (sg1 = sg2)) := by show _ = _; rw [HF.out, hq1, hq2, hq3, hq4]; simp
                obtain ⟨b5, hb5⟩ : ∃ b, b = decide (sg1 = sg2) := ⟨_, rfl⟩
                rw [← hb5] at HF' ⊢
                clear hb5
                go_wp2_with fail
                refine (same_any _ p1 p2 q1 q2 _ _ _ _ (by rw [itemBytes_length _ _ _ _ _ HR1.out, E0.out, E1.out]) (by rw [itemBytes_length _ _ _ _ _ HR2.out, E2.out, E3.out]) (i5'.drewN _) (hp2.drewN _) (by omega)).mono ?_
                rintro e w' ⟨rfl, qz, rfl⟩
                rw [HF'.out]
                cases b5
                all_goals
                  go_wp2
                  go_ret
                  exact ⟨rfl, below_drewN bw6 _⟩

set_option maxRecDepth 10000 in
set_option maxHeartbeats 1000000 in
theorem inj_out (w : World) (a0 a1 a2 a3 : Option Addr) (n0 c0 n1 c1 n2 c2 n3 c3 : Nat) (r1 r2 : List Int) (ts1 sz1 ts2 sz2 : Int) (hl0 : n0 ≤ maxLen) (hl1 : n1 ≤ maxLen) (hl2 : n2 ≤ maxLen) (hl3 : n3 ≤ maxLen)
   (hr1 : r1.length = 32) (hr2 : r2.length = 32) (hm : ¬ (n0 ≤ 255 ∧ n1 ≤ 65535 ∧ n2 ≤ 255 ∧ n3 ≤ 65535)) :
    Calls Tryf.prog 6 #[.slice a0 n0 c0, .int .u64 ts1, .int .u64 sz1, .agg (I r1).toArray, .slice a1 n1 c1, .slice a2 n2 c2, .int .u64 ts2, .int .u64 sz2, .agg (I r2).toArray, .slice a3 n3 c3] w fun e w' => e = .returned (.bool true) ∧ Below w.heap.size w w' := by
  have HR1 : Hid (r1.length = 32) := hr1
  have HR2 : Hid (r2.length = 32) := hr2
  have HQ1 : Hid ((Tryf.prog.info? 23).map (·.size) = some (I r1).length) := by show _ = _; rw [I_length, HR1.out]; exact Tryf.info23
  have HQ2 : Hid ((Tryf.prog.info? 23).map (·.size) = some (I r2).length) := by show _ = _; rw [I_length, HR2.out]; exact Tryf.info23
  clear hr1 hr2
  have bw : Below w.heap.size w ((w.alloc (.cells (I r1).toArray 23)).alloc (.cells (I r2).toArray 23)) := ((Below.refl _ _).alloc (Nat.le_refl _) _).alloc (by simp) _
  have g1 : ((w.alloc (.cells (I r1).toArray 23)).alloc (.cells (I r2).toArray 23)).rangeAt w.heap.size 0 (I r1) := rangeBelow (rangeNew w r1 23) ((Below.refl _ _).alloc (Nat.le_refl _) _) (by simp)
  have g2 : ((w.alloc (.cells (I r1).toArray 23)).alloc (.cells (I r2).toArray 23)).rangeAt (w.heap.size + 1) 0 (I r2) := by simpa using rangeNew (w.alloc (.cells (I r1).toArray 23)) r2 23
  have h4 : (255 : Int) < n0 ∨ ((n0 : Int) ≤ 255 ∧ (65535 : Int) < n1) ∨ ((n0 : Int) ≤ 255 ∧ (n1 : Int) ≤ 65535 ∧ (255 : Int) < n2) ∨ ((n0 : Int) ≤ 255 ∧ (n1 : Int) ≤ 65535 ∧ (n2 : Int) ≤ 255 ∧ (65535 : Int) < n3) := by omega
  clear hm
  rcases h4 with m0 | ⟨m0, m1⟩ | ⟨m0, m1, m2⟩ | ⟨m0, m1, m2, m3⟩
  all_goals
    go_enter Tryf.func6, Tryf.ntmps6
    go_wp2_with (first | (refine wpList_load_mid rfl 23 _ rfl w.heap.size 0 rfl (I r1) _ g1 Tryf.underlying23 rfl HQ1.out ?_) | (refine wpList_load_mid rfl 23 _ rfl (w.heap.size + 1) 0 rfl (I r2) _ g2 Tryf.underlying23 rfl HQ2.out ?_))
    refine (bytes15 _ a0 a1 a2 a3 n0 c0 n1 c1 n2 c2 n3 c3 _ _ _ _ _ _ hl0 hl1 hl2 hl3).mono ?_
    rintro e w1 ⟨b, rfl, hb1⟩
    have bw1 : Below w.heap.size w w1 := bw.trans (hb1.mono (by simp; omega))
    clear hb1 bw g1 g2
    cases b
    all_goals
      go_wp2
      go_ret
      exact ⟨rfl, bw1⟩
end Go.Proofs.Qxb6613964aFmt
