import Derived.Test.Qxb6613964aFmtPlain
import Derived.Laws.CopyOwn
namespace Go.Proofs.Qxb6613964aFmt
open Go.RowKit
section
variable {P : Program} {w : World} {ops : Array Oper} {rest : List Oper} {o : Oper} {a : Act} {Q : Exit → Act → World → Prop}

/-- make([]byte, n) -/
theorem wpList_make_ap (hgd : o.guard = none) (l c : Operand) (t : TypeId) (hop : o.op = Op.makeSlice t l c)
    (B : Nat) (e : TypeId) (i : TypeInfo) (ht : P.underlying t = some (.slice e)) (hi : P.info? e = some i) (hz : i.zero = some (.int .u8 0)) (hs : i.size = 1) (hb : i.bytes = 1)
    (n : Nat) (hl : a.eval l = .int .i64 n) (hc : a.eval c = .int .i64 n) (hn : n ≤ 70368744177664) (hB : B ≤ w.heap.size)
    (h : ∀ w', Own w' B e (.slice (some ⟨w.heap.size, 0, none⟩) n n) (List.replicate n 0) → w.grownBy w' none → wpList P ops Q rest (a.put o.dst (.slice (some ⟨w.heap.size, 0, none⟩) n n)) w') :
    wpList P ops Q (o :: rest) a w := by
  refine wpList_make_full w hgd l c t hop B e i (.int .u8 0) 1 ht hi hz hs .i64 .i64 n n n hl hc rfl rfl (by rw [hb]; omega) (by unfold maxLen; omega) hB fun w' h1 h2 => h w' ?_ h2
  unfold Own
  have e1 : (madeCells (Value.int .u8 0).cells (n * 1)).toList = I (List.replicate n 0) := by
    rw [Nat.mul_one]
    show (madeCells #[Value.int .u8 0] n).toList = _
    rw [toList_madeCells_one]
    simp [I]
  rw [e1] at h1
  simpa using h1

/-- copy(d, s): d a slice of the call's own, from its block's head on, s as long. -/
theorem wpList_copy_ap (hgd : o.guard = none) (d s : Operand) (dT sT : TypeId)
    (ho : o.op = .call { callee := .builtin .copy, args := #[d, s], argTypes := #[dT, sT] }) (e : TypeId) (hu : P.underlying dT = some (.slice e)) (hsz : (P.info? e).map (·.size) = some 1)
    (B g n : Nat) (ao : Option Addr) (c : Nat) (hd : a.eval d = .slice (some ⟨g, 0, none⟩) n n) (hs : a.eval s = .slice ao n c) (ys zs : List Int) (hy : ys.length = n) (hz : zs.length = n)
    (hown : Own w B e (.slice (some ⟨g, 0, none⟩) n n) ys) (hsrc : Src w ao zs)
    (h : ∀ w', Own w' B e (.slice (some ⟨g, 0, none⟩) n n) zs → w.grownBy w' (some g) → wpList P ops Q rest (a.put o.dst (goInt n)) w') : wpList P ops Q (o :: rest) a w := by
  cases ao with
  | none =>
    obtain rfl := hsrc.1 rfl
    simp at hz
    subst hz
    obtain rfl : ys = [] := List.eq_nil_of_length_eq_zero hy
    exact wpList_copy_nothing hgd d s dT sT ho e hu hsz _ _ _ _ _ _ hd hs rfl (h w hown (World.grownBy.refl _ _))
  | some ad =>
    rcases hown.2 with ⟨hv, _⟩ | ⟨g', cap, cur, hv, hbg, hg, hnc, hcm, hcs, htake⟩
    · cases hv
    · simp only [Value.slice.injEq, Option.some.injEq, Addr.mk.injEq, and_true] at hv
      obtain ⟨rfl, hyn, rfl⟩ := hv
      have hcur : cur.toList.length = n := by simpa using hcs
      refine wpList_copy_own hgd d s dT sT ho e hu hsz g 0 n n ad n c hd hs cur e hg (I zs) (by simp [I_length, hz]) hsrc.news (by rw [I_length, hz]; simpa using Nat.le_of_eq hcur.symm) (I_oneCell zs) ?_
      have e2 : (cur.toList.take 0 ++ (I zs ++ cur.toList.drop (0 + (I zs).length))) = I zs := by
        rw [I_length, hz, Nat.zero_add, List.drop_of_length_le (by omega)]
        simp
      rw [e2, I_length, hz]
      refine h _ ⟨by simp [I_length], .inr ⟨g, n, (I zs).toArray, by rw [hz], hbg, setRow_heap w g cur _ e _ hg, by omega, hcm, by simp [I_length, hz], by simp [← I_length]⟩⟩ ⟨rfl, rfl, rfl, by simp, fun k _ hk => setRow_other w g k _ (fun e => hk (by simp [e]))⟩
end

open Go.RowKit

set_option maxRecDepth 10000 in
set_option maxHeartbeats 1000000 in
/-- the bound on total length, laid by program -/
theorem bytes15 (w : World) (a0 a1 a2 a3 : Option Addr) (n0 c0 n1 c1 n2 c2 n3 c3 : Nat) (t1 s1 t2 s2 : Value) (r1 r2 : Array Value) (h0 : n0 ≤ maxLen) (h1 : n1 ≤ maxLen) (h2 : n2 ≤ maxLen) (h3 : n3 ≤ maxLen) :
    Calls Tryf.prog 15 #[.slice a0 n0 c0, t1, s1, .agg r1, .slice a1 n1 c1, .slice a2 n2 c2, t2, s2, .agg r2, .slice a3 n3 c3] w fun e w' => ∃ b, e = .returned (.bool b) ∧ Below w.heap.size w w' := by
  unfold maxLen at h0 h1 h2 h3
  go_enter Tryf.func15, Tryf.ntmps15
  go_wp2
  all_goals (go_ret; exact ⟨_, rfl, ((Below.refl _ _).alloc (Nat.le_refl _) _).alloc (by simp) _⟩)

set_option maxRecDepth 10000 in
set_option maxHeartbeats 1000000 in
theorem bytes13 (w : World) (a0 a1 : Option Addr) (n0 c0 n1 c1 : Nat) (t1 s1 : Value) (r1 : Array Value) (h0 : n0 ≤ maxLen) (h1 : n1 ≤ maxLen) :
    Calls Tryf.prog 13 #[.slice a0 n0 c0, t1, s1, .agg r1, .slice a1 n1 c1] w fun e w' => ∃ b, e = .returned (.bool b) ∧ Below w.heap.size w w' := by
  unfold maxLen at h0 h1
  go_enter Tryf.func13, Tryf.ntmps13
  go_wp2
  all_goals (go_ret; exact ⟨_, rfl, (Below.refl _ _).alloc (Nat.le_refl _) _⟩)

theorem Tryf.info23 : (Tryf.prog.info? 23).map (·.size) = some 32 := by kernel_rfl
theorem Tryf.size5 : (Tryf.prog.info? 5).map (·.size) = some 1 := by kernel_rfl

theorem rangeNew (w : World) (r : List Int) (t : TypeId) : (w.alloc (.cells (I r).toArray t)).rangeAt w.heap.size 0 (I r) := by
  intro j v hv
  rw [cell_of_row _ _ _ _ t (0, 0) (heap_alloc_new w _)]
  simpa using hv
theorem rangeBelow {w w' : World} {b o : Nat} {cs : List Value} (h : w.rangeAt b o cs) (hb : Below w.heap.size w w') (hlt : b < w.heap.size) : w'.rangeAt b o cs := by
  intro j v hv
  rw [hb.cell (p := ⟨b, o + j, none⟩) hlt]
  exact h j v hv
end Go.Proofs.Qxb6613964aFmt
