import Derived.Test.Qxb6613964aFmtModel
import Derived.Deep.RegionHeld3
namespace Go.Proofs.Qxb6613964aFmt
open Go.RowKit

theorem boxTH (w : World) (ts sz : Int) (r : List Int) (t : TypeId) : Head (w.alloc (.cells (headCells ts sz r).toArray t)) w.heap.size 0 ts sz r := by
  have hc : ∀ j, (w.alloc (.cells (headCells ts sz r).toArray t)).cell? ⟨w.heap.size, j, none⟩ = (headCells ts sz r)[j]? := fun j => by
    rw [cell_of_row _ _ _ _ t (0, 0) (heap_alloc_new w _)]
    simp
  refine ⟨by rw [hc]; rfl, by rw [hc]; rfl, fun j x hj => ?_⟩
  rw [hc]
  show (Value.int .u64 ts :: Value.int .u64 sz :: I r)[0 + 2 + j]? = some x
  rw [show 0 + 2 + j = j + 1 + 1 by omega]
  simp only [List.getElem?_cons_succ]
  exact hj

theorem Src.take {w : World} {ao : Option Addr} {zs : List Int} (h : Src w ao zs) (k : Nat) : Src w ao (zs.take k) := by
  refine ⟨fun hd => by rw [h.1 hd]; simp, fun ad hd j hj => ?_⟩
  have hj2 : j < k ∧ j < zs.length := by simp at hj; omega
  rw [h.2 ad hd j hj2.2]
  simp [hj2.1]

theorem Own.shapePos {w : World} {B : Nat} {e : TypeId} {v : Value} {bs : List Int} (h : Own w B e v bs) (hp : 0 < bs.length) : ∃ g cap, v = .slice (some ⟨g, 0, none⟩) bs.length cap ∧ bs.length ≤ cap ∧ cap ≤ maxLen ∧ Src w (some ⟨g, 0, none⟩) bs := by
  obtain ⟨ao, cap', hv, hs, _, _⟩ := h.shape
  rcases h.2 with ⟨rfl, hn⟩ | ⟨g, cap, cur, rfl, _, _, hc, hm, _⟩
  · omega
  · simp only [Value.slice.injEq] at hv
    obtain ⟨rfl, _, rfl⟩ := hv
    exact ⟨g, cap, rfl, hc, hm, hs⟩

theorem head16 (ts sz : Int) (r : List Int) : (headBytes ts sz r).take 16 ++ 32 :: r = (headBytes ts sz r).take (16 + 1 + r.length) := by
  have e : headBytes ts sz r = (be64 ts ++ be64 sz) ++ ((32 :: r) ++ [0, 0]) := by simp [headBytes]
  have l : (be64 ts ++ be64 sz).length = 16 := by simp [be64_length]
  rw [e, List.take_append_of_le_length (by omega), List.take_of_length_le (by omega), List.take_append, List.take_of_length_le (by omega), l]
  rw [show 16 + 1 + r.length - 16 = (32 :: r).length by simp; omega, List.take_left]

/-- What stands while the statement goes on: the head's bytes can be read, nothing old has turned. -/
def St (w0 : World) (g : Nat) (bs : List Int) (w : World) : Prop := Src w (some ⟨g, 0, none⟩) bs ∧ Below w0.heap.size w0 w ∧ w0.heap.size + 1 + 1 ≤ w.heap.size

theorem St.below {w0 w w' : World} {g : Nat} {bs : List Int} (h : St w0 g bs w) (hb : Below w.heap.size w w') : St w0 g bs w' :=
  ⟨h.1.belowAll hb, h.2.1.trans (hb.mono (by have := h.2.2; omega)), by have := h.2.2; have := hb.size; omega⟩

set_option maxRecDepth 10000 in
set_option maxHeartbeats 1000000 in
theorem inside_walk (w : World) (ts sz : Int) (r : List Int) (hr : r.length = 32) (h1 : 0 ≤ ts) (h2 : ts ≤ 18446744073709551615) (h3 : 0 ≤ sz) (h4 : sz ≤ 18446744073709551615) :
    Calls Tryf.prog 4 #[.int .u64 ts, .int .u64 sz, .agg (I r).toArray] w fun e w' => e = .returned (.bool true) ∧ Below w.heap.size w w' := by
  have HR : Hid (r.length = 32) := hr
  clear hr
  have HQ : Hid ((Tryf.prog.info? 23).map (·.size) = some (I r).length) := by show _ = _; rw [I_length, HR.out]; exact Tryf.info23
  have g0 := rangeNew w r 23
  have hB0 : Below w.heap.size w (w.alloc (.cells (I r).toArray 23)) := (Below.refl _ w).alloc (Nat.le_refl _) _
  go_enter Tryf.func4, Tryf.ntmps4
  go_wp2_with (first | (refine wpList_load_mid rfl 23 _ rfl w.heap.size 0 rfl (I r) _ g0 Tryf.underlying23 rfl HQ.out ?_) | (refine wpList_build_at rfl 32 _ rfl #[(0, .int .u64 ts), (1, .int .u64 sz), (2, .agg (I r).toArray)] rfl _ (build32 ts sz r HR.out _) ?_))
  have hh := boxTH (w.alloc (.cells (I r).toArray 23)) ts sz r 32
  have bx : Below (w.alloc (.cells (I r).toArray 23)).heap.size (w.alloc (.cells (I r).toArray 23)) ((w.alloc (.cells (I r).toArray 23)).alloc (.cells (headCells ts sz r).toArray 32)) := (Below.refl _ _).alloc (Nat.le_refl _) _
  have g1 := rangeBelow g0 bx (by simp)
  have b1 : Below w.heap.size w ((w.alloc (.cells (I r).toArray 23)).alloc (.cells (headCells ts sz r).toArray 32)) := hB0.trans (bx.mono (by simp))
  rw [World.size_alloc] at hh
  refine (head_any _ (w.heap.size + 1) 0 ts sz r hh HR.out h1 h2 h3 h4).mono ?_
  rintro e w1 ⟨v1, rfl, o1, bb1⟩
  have g2 := rangeBelow g1 bb1 (by simp; omega)
  have b2 : Below w.heap.size w w1 := b1.trans (bb1.mono (by simp; omega))
  have hs1 : w.heap.size + 1 + 1 ≤ w1.heap.size := by have := bb1.size; simpa using this
  have hl : (headBytes ts sz r).length = 51 := headBytes_length ts sz r HR.out
  obtain ⟨g, c, hv, hc1, hc2, hp⟩ := o1.shapePos (by omega)
  rw [hl] at hv hc1
  unfold maxLen at hc2
  rw [hv]
  have HL : Hid ((headBytes ts sz r).length = 51) := hl
  clear hl hv o1 bb1 g1 hh bx g0 b1 hB0
  go_wp2_with (refine wpList_load_mid rfl 23 _ rfl w.heap.size 0 rfl (I r) _ g2 Tryf.underlying23 rfl HQ.out ?_)
  refine (model_any _ ts sz r HR.out h1 h2 h3 h4).mono ?_
  rintro e w2 ⟨v2, rfl, o2, bb2⟩
  have g3 := rangeBelow g2 bb2 (by omega)
  have b3 : Below w.heap.size w w2 := b2.trans (bb2.mono (by omega))
  have hp2 := hp.belowAll bb2
  have hs2 : w.heap.size + 1 + 1 ≤ w2.heap.size := by have := bb2.size; omega
  obtain ⟨p2, c2, hv2, hq2, _, _⟩ := o2.shape
  rw [HL.out] at hv2
  rw [hv2]
  clear g2 b2 hp hs1 o2 bb2 hv2
  go_wp2_with fail
  refine (same_any _ _ p2 c c2 _ _ 51 51 HL.out HL.out hp2 hq2 (by decide)).mono ?_
  rintro e w3 ⟨rfl, q, rfl⟩
  rw [decide_eq_true rfl]
  have hc1I : (51 : Int) ≤ (c : Int) := by omega
  go_wp2_with fail
  have h16 : (16 : Int) ≤ (c : Int) := by omega
  have h49 : (49 : Int) ≤ (c : Int) := by omega
  have gd0 : (w2.drewN q).drew.rangeAt w.heap.size 0 (I r) := g3
  have sd0 : St w g (headBytes ts sz r) (w2.drewN q).drew := ⟨hp2, (below_drewN b3 q).drew, hs2⟩
  have gd : (w2.drewN (q + 1)).rangeAt w.heap.size 0 (I r) := g3
  have sd : St w g (headBytes ts sz r) (w2.drewN (q + 1)) := ⟨hp2, below_drewN b3 _, hs2⟩
  clear g3 hp2 b3
  have hu := Tryf.underlying23
  have hq := HQ.out
  go_region_held3 (fun wx => wx.rangeAt w.heap.size 0 (I r) ∧ St w g (headBytes ts sz r) wx) ((refine ⟨?_, ?_⟩ <;> assumption)) ((first | (go_at_call 8; refine (clone_any (w2.drewN (q + 1)) (some ⟨g, 0, none⟩) 16 c ((headBytes ts sz r).take 16) (by rw [List.length_take, HL.out]; rfl) (sd.1.take 16) (by decide)).mono ?_; rintro e w4 ⟨v4, rfl, o4, bb4⟩; have gd4 := rangeBelow gd bb4 (by show w.heap.size < w2.heap.size; omega); have sd4 := sd.below bb4) | (go_at_call 9; refine (zzNodeHash_any w4 v4 _ (w2.drewN (q + 1)).heap.size o4 (by simp; omega) bb4.size r HR.out).mono ?_; rintro e w5 ⟨v5, rfl, o5, a5⟩; have bb5 := bb4.trans (a5.below bb4.size (fun k hk => (o4.lt k hk).1)); have gd5 := rangeBelow gd bb5 (by show w.heap.size < w2.heap.size; omega); have sd5 := sd.below bb5)))
  obtain ⟨p5, c5, hv5, hs5, _, _⟩ := o5.shape
  rw [head16, HR.out] at hs5
  have hl5 : (List.take 16 (headBytes ts sz r) ++ 32 :: r).length = 49 := by
    rw [List.length_append, List.length_take, HL.out, List.length_cons, HR.out]
    rfl
  rw [hl5] at hv5
  clear hl5
  rw [hv5]
  have e49 : Hid (((headBytes ts sz r).take (16 + 1 + 32)).length = 49) := by show _ = _; rw [List.length_take, HL.out]; rfl
  go_wp2_with fail
  refine (same_any w5 p5 (some ⟨g, 0, none⟩) c5 c _ _ 49 49 e49.out e49.out hs5 (sd5.1.take _) (by decide)).mono ?_
  rintro e w6 ⟨rfl, q6, rfl⟩
  rw [decide_eq_true rfl]
  go_wp2
  go_ret
  exact ⟨rfl, below_drewN sd5.2.1 q6⟩
end Go.Proofs.Qxb6613964aFmt
