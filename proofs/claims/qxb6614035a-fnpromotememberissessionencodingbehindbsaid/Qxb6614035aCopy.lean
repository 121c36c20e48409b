import Derived.Test.Qxb6614035aRead
import Derived.Laws.CopyOwn
namespace Go.Proofs.Qxb6614035a
open Go.RowKit
section
variable {P : Program} {w : World} {ops : Array Oper} {rest : List Oper} {o : Oper} {a : Act} {Q : Exit → Act → World → Prop}

/-- make([]byte, n) -/
theorem wpList_make_ap (hgd : o.guard = none) (l c : Operand) (t : TypeId) (hop : o.op = Op.makeSlice t l c)
    (B : Nat) (e : TypeId) (i : TypeInfo) (ht : P.underlying t = some (.slice e)) (hi : P.info? e = some i) (hz : i.zero = some (.int .u8 0)) (hs : i.size = 1) (hb : i.bytes = 1)
    (n : Nat) (hl : a.eval l = .int .i64 n) (hc : a.eval c = .int .i64 n) (hn : n ≤ 70368744177664) (hB : B ≤ w.heap.size)
    (h : ∀ w', Own w' B e (.slice (some ⟨w.heap.size, 0, none⟩) n n) (List.replicate n 0) → w.grownBy w' none → wpList P ops Q rest (a.put o.dst (.slice (some ⟨w.heap.size, 0, none⟩) n n)) w') :
    wpList P ops Q (o :: rest) a w := by
  refine wpList_make_full w hgd l c t hop B e i (.int .u8 0) 1 ht hi hz hs .i64 .i64 n n n hl hc rfl rfl (by rw [hb]; omega) (by unfold maxLen; omega) hB fun w' h1 h2 => h w' ?_ h2
  unfold Own
  have e1 : (madeCells (Value.int .u8 0).cells (n * 1)).toList = I (List.replicate n 0) := by
    rw [Nat.mul_one]
    show (madeCells #[Value.int .u8 0] n).toList = _
    rw [toList_madeCells_one]
    simp [I]
  rw [e1] at h1
  simpa using h1

/-- copy(d, s): d a slice of the call's own, from its block's head on, s as long. -/
theorem wpList_copy_ap (hgd : o.guard = none) (d s : Operand) (dT sT : TypeId)
    (ho : o.op = .call { callee := .builtin .copy, args := #[d, s], argTypes := #[dT, sT] }) (e : TypeId) (hu : P.underlying dT = some (.slice e)) (hsz : (P.info? e).map (·.size) = some 1)
    (B g n : Nat) (ao : Option Addr) (c : Nat) (hd : a.eval d = .slice (some ⟨g, 0, none⟩) n n) (hs : a.eval s = .slice ao n c) (ys zs : List Int) (hy : ys.length = n) (hz : zs.length = n)
    (hown : Own w B e (.slice (some ⟨g, 0, none⟩) n n) ys) (hsrc : Src w ao zs)
    (h : ∀ w', Own w' B e (.slice (some ⟨g, 0, none⟩) n n) zs → w.grownBy w' (some g) → wpList P ops Q rest (a.put o.dst (goInt n)) w') : wpList P ops Q (o :: rest) a w := by
  cases ao with
  | none =>
    obtain rfl := hsrc.1 rfl
    simp at hz
    subst hz
    obtain rfl : ys = [] := List.eq_nil_of_length_eq_zero hy
    exact wpList_copy_nothing hgd d s dT sT ho e hu hsz _ _ _ _ _ _ hd hs rfl (h w hown (World.grownBy.refl _ _))
  | some ad =>
    rcases hown.2 with ⟨hv, _⟩ | ⟨g', cap, cur, hv, hbg, hg, hnc, hcm, hcs, htake⟩
    · cases hv
    · simp only [Value.slice.injEq, Option.some.injEq, Addr.mk.injEq, and_true] at hv
      obtain ⟨rfl, hyn, rfl⟩ := hv
      have hcur : cur.toList.length = n := by simpa using hcs
      refine wpList_copy_own hgd d s dT sT ho e hu hsz g 0 n n ad n c hd hs cur e hg (I zs) (by simp [I_length, hz]) hsrc.news (by rw [I_length, hz]; simpa using Nat.le_of_eq hcur.symm) (I_oneCell zs) ?_
      have e2 : (cur.toList.take 0 ++ (I zs ++ cur.toList.drop (0 + (I zs).length))) = I zs := by
        rw [I_length, hz, Nat.zero_add, List.drop_of_length_le (by omega)]
        simp
      rw [e2, I_length, hz]
      refine h _ ⟨by simp [I_length], .inr ⟨g, n, (I zs).toArray, by rw [hz], hbg, setRow_heap w g cur _ e _ hg, by omega, hcm, by simp [I_length, hz], by simp [← I_length]⟩⟩ ⟨rfl, rfl, rfl, by simp, fun k _ hk => setRow_other w g k _ (fun e => hk (by simp [e]))⟩
end

theorem Try.size5 : (Try.prog.info? 5).map (·.size) = some 1 := by kernel_rfl

theorem set_step (zs : List Int) (n k : Nat) (hn : zs.length = n) (hk : k < n) : (zs.take k ++ List.replicate (n - k) 0).set k (zs.getD k 0) = zs.take (k + 1) ++ List.replicate (n - (k + 1)) 0 := by
  have hl : (zs.take k).length = k := by simp; omega
  have e1 : zs.take (k + 1) = zs.take k ++ [zs.getD k 0] := by
    rw [List.take_succ_eq_append_getElem (by omega)]
    simp [show k < zs.length by omega]
  rw [e1, List.set_append_right _ _ (by omega), hl, Nat.sub_self, show n - k = (n - (k + 1)) + 1 by omega, List.replicate_succ, List.set_cons_zero, List.append_assoc]
  rfl

theorem Own.store {w : World} {B : Nat} {e : TypeId} {g n cap : Nat} {xs : List Int} (h : Own w B e (.slice (some ⟨g, 0, none⟩) n cap) xs) (hx : xs.length = n) (k : Nat) (z : Int) : Own (w.setCell ⟨g, k, none⟩ (.int .u8 z)) B e (.slice (some ⟨g, 0, none⟩) n cap) (xs.set k z) := by
  subst hx
  have := World.ownsRow.stored (n := xs.length) (cap := cap) (g := g) h k (.int .u8 z)
  unfold Own
  rw [List.length_set]
  have e1 : I (xs.set k z) = (I xs).set k (.int .u8 z) := by simp [I, List.map_set]
  rw [e1]
  exact this.1

theorem Own.cell {w : World} {B : Nat} {e : TypeId} {g n cap : Nat} {xs : List Int} (h : Own w B e (.slice (some ⟨g, 0, none⟩) n cap) xs) (hx : xs.length = n) (k : Nat) (hk : k < n) : w.cell? ⟨g, k, none⟩ = some (.int .u8 (xs.getD k 0)) ∧ w.frozen? ⟨g, k, none⟩ = false := by
  subst hx
  refine ⟨?_, World.ownsRow.frozenAt (n := xs.length) (cap := cap) h k⟩
  rw [World.ownsRow.cellAt (n := xs.length) (cap := cap) h k (by omega)]
  simp [I, hk]

set_option maxRecDepth 10000 in
set_option maxHeartbeats 1000000 in
/-- zzCopy(b) -/
theorem copy_any (w : World) (ao : Option Addr) (n c : Nat) (zs : List Int) (hn : zs.length = n) (hs : Src w ao zs) (hl : n ≤ 549755813888) :
    Calls Try.prog 8 #[.slice ao n c] w fun e w' => ∃ v', e = .returned v' ∧ Own w' w.heap.size 5 v' zs ∧ Below w.heap.size w w' := by
  obtain ⟨i0, hi, hz0, hz1, hz2⟩ := info_parts Try.info5
  have HN : Hid (zs.length = n) := hn
  have HL : Hid (n ≤ 549755813888) := hl
  have hlI : (n : Int) ≤ 549755813888 := by omega
  clear hn hl
  have heql := fun (wx : World) (a : Option Addr) (n c : Nat) => Lib.run_eql_slice_nil (P := Try.prog) wx 22 5 a n c 0 0 Try.underlying22
  cases ao with
  | none =>
    obtain rfl := hs.1 rfl
    go_enter Try.func8, Try.ntmps8
    go_wp2
    go_ret
    exact ⟨_, rfl, Own.nil _ _ _, Below.refl _ _⟩
  | some ad =>
    go_enter Try.func8, Try.ntmps8
    go_wp2_with (at_make; refine wpList_make_ap rfl _ _ 22 rfl w.heap.size 5 i0 Try.underlying22 hi hz0 hz1 hz2 n rfl rfl (by have := HL.out; omega) (Nat.le_refl _) ?_; intro w2 ho2 hg2)
    have b2 : Below w.heap.size w w2 := (Below.refl _ _).grown hg2 (Nat.le_refl _) (fun k hk => by cases hk)
    clear heql hg2
    go_loopw [4] (fun i wr => ∃ k : Nat, k ≤ n ∧ i = .int .i64 k ∧ Own wr w.heap.size 5 (.slice (some ⟨w.heap.size, 0, none⟩) n n) (zs.take k ++ List.replicate (n - k) 0) ∧ Below w.heap.size w wr) (fun i _ => n - (intOf i).toNat)
    case atStart => exact ⟨0, Nat.zero_le _, rfl, by simpa using ho2, b2⟩
    case round =>
      obtain ⟨k, hk, rfl, ok, bk⟩ := hrel
      by_cases hlt : k < n
      · have hlen : (zs.take k ++ List.replicate (n - k) 0).length = n := by have := HN.out; simp; omega
        obtain ⟨b1, o1, had, hc1⟩ := (hs.belowAll bk).at (by rw [HN.out]; omega)
        obtain rfl := Option.some.inj had
        have hk1 := hc1 k (by rw [HN.out]; exact hlt)
        obtain ⟨hd1, hd2⟩ := ok.cell hlen k hlt
        have ost := ok.store hlen k (zs.getD k 0)
        rw [set_step zs n k HN.out hlt] at ost
        obtain ⟨y, hy⟩ : ∃ y, y = zs.getD k 0 := ⟨_, rfl⟩
        rw [← hy] at hk1 ost
        have bst : Below w.heap.size w (wr.setCell ⟨w.heap.size, k, none⟩ (.int .u8 y)) := bk.setCell (Nat.le_refl _) _
        have OST : Hid (Own (wr.setCell ⟨w.heap.size, k, none⟩ (.int .u8 y)) w.heap.size 5 (.slice (some ⟨w.heap.size, 0, none⟩) n n) (zs.take (k + 1) ++ List.replicate (n - (k + 1)) 0)) := ost
        have hltI : (k : Int) < (n : Int) := by omega
        clear hy hc1 hs ok ost hlen bk
        go_wp2
        go_roundw
        case rel => exact ⟨k + 1, by omega, by go_num, OST.out, bst⟩
        case measure => simp [intOf]; omega
      · obtain rfl : k = n := by omega
        rw [Nat.sub_self, List.take_of_length_le (by rw [HN.out]; exact Nat.le_refl _)] at ok
        go_wp2
        go_ret
        exact ⟨_, rfl, by simpa using ok, bk⟩
end Go.Proofs.Qxb6614035a
