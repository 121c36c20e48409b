import Derived.Test.Qxb6613964aFmtCopy
import Derived.ChangeKeysEq
namespace Go.Proofs.Qxb6613964aFmt
open Go.RowKit

/-- The cells of a tree head. -/
def headCells (ts sz : Int) (r : List Int) : List Value := .int .u64 ts :: .int .u64 sz :: I r
/-- The cells of a signed tree head. -/
def itemCells (v : Value) (ts sz : Int) (r : List Int) (u : Value) : List Value := v :: .int .u64 ts :: .int .u64 sz :: (I r ++ [u])

theorem wpList_build_at {P : Program} {w : World} {ops : Array Oper} {rest : List Oper} {o : Oper} {a : Act} {Q : Exit → Act → World → Prop} (hgd : o.guard = none) (t : TypeId) (parts : Array (Nat × Operand)) (ho : o.op = .build t parts)
    (vals : Array (Nat × Value)) (hv0 : parts.toList.map (fun p => (p.1, a.eval p.2)) = vals.toList) (v : Value) (hrun : (Instr.build t vals).run P w = .ok v w) (h : wpList P ops Q rest (a.put o.dst v) w) : wpList P ops Q (o :: rest) a w := by
  have hv : parts.map (fun p => (p.1, a.eval p.2)) = vals := Array.toList_inj.1 (by simpa using hv0)
  refine wpList_plain hgd fun K hK => ?_
  unfold Oper.wp execOp
  simp only [ho, hv, hrun, Sem.run_bind, Sem.run_pure, Result.andThen_ok]
  exact hK _ _ h

theorem len32 {r : List Int} (h : r.length = 32) : ∃ x0 x1 x2 x3 x4 x5 x6 x7 x8 x9 x10 x11 x12 x13 x14 x15 x16 x17 x18 x19 x20 x21 x22 x23 x24 x25 x26 x27 x28 x29 x30 x31, r = [x0, x1, x2, x3, x4, x5, x6, x7, x8, x9, x10, x11, x12, x13, x14, x15, x16, x17, x18, x19, x20, x21, x22, x23, x24, x25, x26, x27, x28, x29, x30, x31] := by
  match r, h with
  | [x0, x1, x2, x3, x4, x5, x6, x7, x8, x9, x10, x11, x12, x13, x14, x15, x16, x17, x18, x19, x20, x21, x22, x23, x24, x25, x26, x27, x28, x29, x30, x31], _ => exact ⟨x0, x1, x2, x3, x4, x5, x6, x7, x8, x9, x10, x11, x12, x13, x14, x15, x16, x17, x18, x19, x20, x21, x22, x23, x24, x25, x26, x27, x28, x29, x30, x31, rfl⟩

set_option maxRecDepth 100000 in
theorem build32 (ts sz : Int) (r : List Int) (hr : r.length = 32) (w : World) : (Instr.build 32 #[(0, .int .u64 ts), (1, .int .u64 sz), (2, .agg (I r).toArray)]).run Tryf.prog w = .ok (.agg (headCells ts sz r).toArray) w := by
  obtain ⟨x0, x1, x2, x3, x4, x5, x6, x7, x8, x9, x10, x11, x12, x13, x14, x15, x16, x17, x18, x19, x20, x21, x22, x23, x24, x25, x26, x27, x28, x29, x30, x31, rfl⟩ := len32 hr
  kernel_rfl

set_option maxRecDepth 100000 in
theorem build40 (ts sz : Int) (r : List Int) (hr : r.length = 32) (a b : Option Addr) (n c m d : Nat) (w : World) :
    (Instr.build 40 #[(0, .slice a n c), (1, .agg (headCells ts sz r).toArray), (2, .slice b m d)]).run Tryf.prog w = .ok (.agg (itemCells (.slice a n c) ts sz r (.slice b m d)).toArray) w := by
  obtain ⟨x0, x1, x2, x3, x4, x5, x6, x7, x8, x9, x10, x11, x12, x13, x14, x15, x16, x17, x18, x19, x20, x21, x22, x23, x24, x25, x26, x27, x28, x29, x30, x31, rfl⟩ := len32 hr
  kernel_rfl

theorem Tryf.plain5 : Tryf.prog.plainKey 5 = true := by kernel_rfl
theorem Tryf.cells5 : Tryf.prog.cellsOf 5 = 1 := by kernel_rfl

theorem eqItems_I (w : World) (d : Nat) (xs ys : List Int) : ∀ is : List Nat, (∀ i ∈ is, i < xs.length ∧ i < ys.length) →
    (Op.eqItems (d + 1) 5 1 (I xs).toArray (I ys).toArray is).run Tryf.prog w = .ok (decide (∀ i ∈ is, xs.getD i 0 = ys.getD i 0)) w
  | [], _ => by simp [Op.eqItems]
  | i :: is, h => by
    obtain ⟨h1, h2⟩ := h i (List.mem_cons_self)
    have ih := eqItems_I w d xs ys is (fun j hj => h j (List.mem_cons_of_mem _ hj))
    have p1 : (part 5 (I xs).toArray (i * 1)).run Tryf.prog w = .ok (.int .u8 (xs.getD i 0)) w := run_part_plain w Tryf.plain5 (by simp [I, h1])
    have p2 : (part 5 (I ys).toArray (i * 1)).run Tryf.prog w = .ok (.int .u8 (ys.getD i 0)) w := run_part_plain w Tryf.plain5 (by simp [I, h2])
    simp only [Op.eqItems, Sem.run_bind, p1, p2, Result.andThen_ok, run_equalIn_int w d 5 .u8 .u8 _ _ Tryf.underlying5]
    by_cases he : xs.getD i 0 = ys.getD i 0
    · have hb : (xs.getD i 0 == ys.getD i 0) = true := by simpa using he
      rw [hb]
      simp only [Bool.not_true, Bool.false_eq_true, if_false, ih]
      simp only [List.mem_cons, forall_eq_or_imp, he, true_and]
    · have hb : (xs.getD i 0 == ys.getD i 0) = false := by simpa using he
      rw [hb]
      simp only [Bool.not_false, if_true, Sem.run_pure, List.mem_cons, forall_eq_or_imp, he, false_and, decide_false]

/-- root1 == root2 -/
theorem eql23 (w : World) (xs ys : List Int) (hx : xs.length = 32) (hy : ys.length = 32) : (Op.equalIn 10000 23 (.agg (I xs).toArray) (.agg (I ys).toArray)).run Tryf.prog w = .ok (decide (xs = ys)) w := by
  obtain ⟨i0, hi, _, _, _⟩ := info_parts Tryf.info5
  rw [run_equalIn_array w 9999 _ _ Tryf.underlying23 hi, Tryf.cells5, eqItems_I w 9998 xs ys _ (fun i hi => by rw [List.mem_range] at hi; omega)]
  congr 1
  rw [decide_eq_decide]
  constructor
  · intro h
    refine List.ext_getElem (by omega) fun i h1 h2 => ?_
    have := h i (by rw [List.mem_range]; omega)
    simpa [h1, h2] using this
  · rintro rfl i _
    rfl

/-- The box of a signed tree head, as it is read. -/
theorem boxHead (w : World) (v u : Value) (ts sz : Int) (r : List Int) (hr : r.length = 32) (t : TypeId) :
    (w.alloc (.cells (itemCells v ts sz r u).toArray t)).cell? ⟨w.heap.size, 0, none⟩ = some v ∧ Head (w.alloc (.cells (itemCells v ts sz r u).toArray t)) w.heap.size (0 + 1) ts sz r ∧
      (w.alloc (.cells (itemCells v ts sz r u).toArray t)).cell? ⟨w.heap.size, 0 + 35, none⟩ = some u := by
  have hc : ∀ j, (w.alloc (.cells (itemCells v ts sz r u).toArray t)).cell? ⟨w.heap.size, j, none⟩ = (itemCells v ts sz r u)[j]? := fun j => by
    rw [cell_of_row _ _ _ _ t (0, 0) (heap_alloc_new w _)]
    simp
  refine ⟨by rw [hc]; rfl, ⟨by rw [hc]; rfl, by rw [hc]; rfl, fun j x hj => ?_⟩, ?_⟩
  · rw [hc]
    obtain ⟨hjl, _⟩ := I_get r j x hj
    show (v :: Value.int .u64 ts :: Value.int .u64 sz :: (I r ++ [u]))[0 + 1 + 2 + j]? = some x
    rw [show 0 + 1 + 2 + j = j + 1 + 1 + 1 by omega]
    simp only [List.getElem?_cons_succ]
    rw [List.getElem?_append_left (by rw [I_length]; exact hjl)]
    exact hj
  · rw [hc]
    show (v :: Value.int .u64 ts :: Value.int .u64 sz :: (I r ++ [u]))[32 + 1 + 1 + 1]? = some u
    simp only [List.getElem?_cons_succ]
    rw [List.getElem?_append_right (by rw [I_length]; omega), I_length, hr]
    rfl

/-- Two such boxes, one behind the other. -/
theorem boxes (w : World) (v u v' u' : Value) (ts sz ts' sz' : Int) (r r' : List Int) (hr : r.length = 32) (hr' : r'.length = 32) (t : TypeId) (wx : World)
    (hwx : (w.alloc (.cells (itemCells v ts sz r u).toArray t)).alloc (.cells (itemCells v' ts' sz' r' u').toArray t) = wx) :
    Below w.heap.size w wx ∧ w.heap.size + 2 ≤ wx.heap.size ∧ (wx.cell? ⟨w.heap.size, 0, none⟩ = some v ∧ Head wx w.heap.size (0 + 1) ts sz r ∧ wx.cell? ⟨w.heap.size, 0 + 35, none⟩ = some u) ∧
      (wx.cell? ⟨w.heap.size + 1, 0, none⟩ = some v' ∧ Head wx (w.heap.size + 1) (0 + 1) ts' sz' r' ∧ wx.cell? ⟨w.heap.size + 1, 0 + 35, none⟩ = some u') := by
  obtain ⟨k1, h1, j1⟩ := boxHead w v u ts sz r hr t
  obtain ⟨k2, h2, j2⟩ := boxHead (w.alloc (.cells (itemCells v ts sz r u).toArray t)) v' u' ts' sz' r' hr' t
  have b2 : Below (w.alloc (.cells (itemCells v ts sz r u).toArray t)).heap.size (w.alloc (.cells (itemCells v ts sz r u).toArray t)) ((w.alloc (.cells (itemCells v ts sz r u).toArray t)).alloc (.cells (itemCells v' ts' sz' r' u').toArray t)) := (Below.refl _ _).alloc (Nat.le_refl _) _
  have lt : w.heap.size < (w.alloc (.cells (itemCells v ts sz r u).toArray t)).heap.size := by simp
  rw [← b2.cell (p := ⟨w.heap.size, 0, none⟩) lt] at k1
  rw [← b2.cell (p := ⟨w.heap.size, 0 + 35, none⟩) lt] at j1
  replace h1 := h1.below b2
  rw [World.size_alloc] at k2 h2 j2
  subst hwx
  exact ⟨((Below.refl _ _).alloc (Nat.le_refl _) _).alloc (by simp) _, by simp, ⟨k1, h1, j1⟩, ⟨k2, h2, j2⟩⟩

/-- A whole array loaded, under a guard that says yes. -/
theorem wpList_load_want {P : Program} {ops : Array Oper} {rest : List Oper} {op : Oper} {a : Act} {w : World} {Q : Exit → Act → World → Prop} (hw : Region.wanted op (yielded ops a.tmps) = true) (ty : TypeId) (x : Operand) (ho : op.op = .load ty x)
    (b o : Nat) (hx : a.eval x = .pointer (some ⟨b, o, none⟩)) (cs : List Value) (d : TypeDesc) (hc : w.rangeAt b o cs)
    (hu : P.underlying ty = some d) (hd : d.isRow = true) (hi : (P.info? ty).map (·.size) = some cs.length)
    (h : wpList P ops Q rest (a.put op.dst (.agg cs.toArray)) w) : wpList P ops Q (op :: rest) a w :=
  BigFrame.wpList_want hw fun _ hK => wp_load_mid ty x ho b o hx cs d hc hu hd hi (hK _ _ h)
end Go.Proofs.Qxb6613964aFmt
