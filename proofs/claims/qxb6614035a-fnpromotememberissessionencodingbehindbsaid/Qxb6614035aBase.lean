import Derived.WalkKit
import Derived.ProofKit
import Derived.ArgAppend
import Derived.Laws.OwnMore
import Derived.Laws.AppendOwn
import Derived.Laws.CopyOwn
import Derived.Below
namespace Go.Proofs.Qxb6614035a
open Go.RowKit

/-- Bytes, as values. -/
def I (zs : List Int) : List Value := zs.map (Value.int .u8)

theorem I_length (zs : List Int) : (I zs).length = zs.length := by simp [I]
theorem I_append (a b : List Int) : I (a ++ b) = I a ++ I b := by simp [I]
theorem I_oneCell (zs : List Int) : ∀ u ∈ I zs, u.oneCell' = true := by
  intro u hu
  obtain ⟨_, _, rfl⟩ := List.mem_map.1 hu
  rfl
theorem I_get (zs : List Int) (j : Nat) (u : Value) (h : (I zs)[j]? = some u) : j < zs.length ∧ u = .int .u8 (zs.getD j 0) := by
  have hj : j < zs.length := by
    have := (List.getElem?_eq_some_iff.1 h).1
    simpa [I] using this
  refine ⟨hj, ?_⟩
  simp [I, hj] at h
  simp [hj, h]

/-- A slice of bytes, as it is read: no address and no bytes; or an address from which on they lie. -/
def Src (w : World) (ao : Option Addr) (zs : List Int) : Prop :=
  (ao = none → zs = []) ∧ ∀ ad, ao = some ad → ∀ j, j < zs.length → w.cell? (ad.add j) = some (.int .u8 (zs.getD j 0))

theorem Src.news {w : World} {ad : Addr} {zs : List Int} (h : Src w (some ad) zs) : ∀ j u, (I zs)[j]? = some u → w.cell? (ad.add j) = some u := by
  intro j u hu
  obtain ⟨hj, rfl⟩ := I_get zs j u hu
  exact h.2 ad rfl j hj

/-- The slice value 'v' is the call's own (its block is B or later) and holds the bytes 'bs'. -/
def Own (w : World) (B : Nat) (e : TypeId) (v : Value) (bs : List Int) : Prop := w.ownsRow B e 1 v bs.length (I bs)

/-- From 'w' to 'w'' a slice 'v' of the call's own has become 'v'': only its block may have been written; the new one lies there, or in a new block. -/
structure Ap (w w' : World) (v v' : Value) : Prop where
  grown : w.grownBy w' v.ownBlock
  blk : v'.ownBlock = v.ownBlock ∨ ∃ k, v'.ownBlock = some k ∧ w.heap.size ≤ k

theorem Ap.refl (w : World) (v : Value) : Ap w w v v := ⟨World.grownBy.refl _ _, .inl rfl⟩

theorem grownBy_trans {a b c : World} {r s : Option Nat} (h : a.grownBy b r) (k : b.grownBy c s) (hs : s = r ∨ ∃ j, s = some j ∧ a.heap.size ≤ j) : a.grownBy c r := by
  refine ⟨k.os.trans h.os, k.tape.trans h.tape, k.output.trans h.output, Nat.le_trans h.size k.size, fun i hi hne => ?_⟩
  have hz := h.size
  rw [k.block i (by omega) ?_]
  · exact h.block i hi hne
  · rcases hs with rfl | ⟨j, rfl, hj⟩
    · exact hne
    · intro e
      simp at e
      omega

theorem Ap.trans {a b c : World} {u v x : Value} (h : Ap a b u v) (k : Ap b c v x) : Ap a c u x := by
  have hz := h.grown.size
  refine ⟨grownBy_trans h.grown k.grown h.blk, ?_⟩
  rcases k.blk with e | ⟨j, e, hj⟩
  · rw [e]; exact h.blk
  · exact .inr ⟨j, e, by omega⟩

theorem Ap.alloc (w : World) (v : Value) (o : Obj) : Ap w (w.alloc o) v v := ⟨World.grownBy_alloc w o _, .inl rfl⟩
theorem Ap.drew (w : World) (v : Value) : Ap w w.drew v v := ⟨⟨rfl, rfl, rfl, Nat.le_refl _, fun _ _ _ => rfl⟩, .inl rfl⟩

theorem Own.lt {w : World} {B : Nat} {e : TypeId} {v : Value} {bs : List Int} (h : Own w B e v bs) : ∀ k, v.ownBlock = some k → B ≤ k ∧ k < w.heap.size := World.ownsRow.lt h

theorem Ap.below {w w' : World} {v v' : Value} {B : Nat} (h : Ap w w' v v') (hB : B ≤ w.heap.size) (hv : ∀ k, v.ownBlock = some k → B ≤ k) : Below B w w' :=
  (Below.refl B w).grown h.grown hB hv

/-- Another slice of the call's own, in another block, stays. -/
theorem Own.kept {w w' : World} {B : Nat} {e : TypeId} {v : Value} {bs : List Int} {row : Option Nat} (h : Own w B e v bs) (hg : w.grownBy w' row) (hne : v.ownBlock = none ∨ v.ownBlock ≠ row) : Own w' B e v bs :=
  World.ownsRow.kept h hg hne

theorem Own.alloc {w : World} {B : Nat} {e : TypeId} {v : Value} {bs : List Int} (h : Own w B e v bs) (o : Obj) : Own (w.alloc o) B e v bs := World.ownsRow.alloc h o

theorem Own.mono {w : World} {B B' : Nat} {e : TypeId} {v : Value} {bs : List Int} (h : Own w B e v bs) (hB : B' ≤ B) : Own w B' e v bs := by
  refine ⟨h.1, ?_⟩
  rcases h.2 with hn | ⟨g, cap, cur, hv, hb, rest⟩
  · exact .inl hn
  · exact .inr ⟨g, cap, cur, hv, by omega, rest⟩

theorem Own.below {w w' : World} {B B' : Nat} {e : TypeId} {v : Value} {bs : List Int} (h : Own w B e v bs) (hb : Below B' w w') (hlt : ∀ k, v.ownBlock = some k → k < B') : Own w' B e v bs := by
  refine ⟨h.1, ?_⟩
  rcases h.2 with hn | ⟨g, cap, cur, rfl, hg, hh, rest⟩
  · exact .inl hn
  · exact .inr ⟨g, cap, cur, rfl, hg, by rw [hb.block g (hlt g rfl)]; exact hh, rest⟩

theorem Own.nil (w : World) (B : Nat) (e : TypeId) : Own w B e (.slice none 0 0) [] := World.ownsRow_nil _ _ _ _

/-- The shape of such a value, and what it reads as. -/
theorem Own.shape {w : World} {B : Nat} {e : TypeId} {v : Value} {bs : List Int} (h : Own w B e v bs) : ∃ ao cap, v = .slice ao bs.length cap ∧ Src w ao bs ∧ (ao = none → cap = 0) ∧ (∀ ad, ao = some ad → v.ownBlock = some ad.block) := by
  have hc := fun g hg => World.ownsRow.cells h (g := g) hg
  rcases h.2 with ⟨rfl, hn⟩ | ⟨g, cap, cur, rfl, _⟩
  · refine ⟨none, 0, by rw [hn], ⟨fun _ => List.eq_nil_of_length_eq_zero hn, fun ad hd => by cases hd⟩, fun _ => rfl, fun ad hd => by cases hd⟩
  · refine ⟨some ⟨g, 0, none⟩, cap, rfl, ⟨(fun hd => by cases hd), fun ad hd j hj => ?_⟩, (fun hd => by cases hd), fun ad hd => ?_⟩
    · obtain rfl := Option.some.inj hd
      exact hc g rfl j _ (by simp [I, hj])
    · obtain rfl := Option.some.inj hd
      rfl

theorem Src.lt {w : World} {ad : Addr} {zs : List Int} (h : Src w (some ad) zs) (hz : zs ≠ []) : ad.block < w.heap.size := by
  have h0 : 0 < zs.length := List.length_pos_iff.2 hz
  have := World.block_lt_of_cell? w _ (h.2 ad rfl 0 h0)
  have e : (ad.add 0).block = ad.block := by unfold Addr.add; split <;> rfl
  rwa [e] at this

theorem add_block (ad : Addr) (j : Nat) : (ad.add j).block = ad.block := by unfold Addr.add; split <;> rfl

/-- What is read stays readable where its block is not the one that is written. -/
theorem Src.grown {w w' : World} {ao : Option Addr} {zs : List Int} {row : Option Nat} (h : Src w ao zs) (hg : w.grownBy w' row) (hne : ∀ ad, ao = some ad → zs ≠ [] → some ad.block ≠ row) : Src w' ao zs := by
  refine ⟨h.1, fun ad hd j hj => ?_⟩
  have hz : zs ≠ [] := by intro e; subst e; simp at hj
  exact hg.cell (h.2 ad hd j hj) (by rw [add_block]; exact hne ad hd hz)

theorem Src.below {w w' : World} {ao : Option Addr} {zs : List Int} {B : Nat} (h : Src w ao zs) (hb : Below B w w') (hlt : ∀ ad, ao = some ad → zs ≠ [] → ad.block < B) : Src w' ao zs := by
  refine ⟨h.1, fun ad hd j hj => ?_⟩
  have hz : zs ≠ [] := by intro e; subst e; simp at hj
  rw [hb.cell (p := ad.add j) (by rw [add_block]; exact hlt ad hd hz)]
  exact h.2 ad hd j hj

theorem Src.belowAll {w w' : World} {ao : Option Addr} {zs : List Int} (h : Src w ao zs) (hb : Below w.heap.size w w') : Src w' ao zs :=
  h.below hb fun _ hd hz => by subst hd; exact h.lt hz

theorem Src.alloc {w : World} {ao : Option Addr} {zs : List Int} (h : Src w ao zs) (o : Obj) : Src (w.alloc o) ao zs :=
  h.belowAll ((Below.refl _ _).alloc (Nat.le_refl _) o)

/-- Apart: the block that is read is not the block of the slice that grows. -/
def Apart (ao : Option Addr) (zs : List Int) (v : Value) : Prop := ∀ ad, ao = some ad → zs ≠ [] → some ad.block ≠ v.ownBlock

theorem Apart.step {w w' : World} {ao : Option Addr} {zs : List Int} {v v' : Value} (h : Src w ao zs) (ha : Apart ao zs v) (hp : Ap w w' v v') : Src w' ao zs ∧ Apart ao zs v' := by
  refine ⟨h.grown hp.grown ha, fun ad hd hz => ?_⟩
  have hl : ad.block < w.heap.size := by subst hd; exact h.lt hz
  rcases hp.blk with e | ⟨k, e, hk⟩
  · rw [e]; exact ha ad hd hz
  · rw [e]; simp; omega

section
variable {P : Program} (w : World)

/-- append(v, src...): v the call's own, src whatever can be read. -/
theorem run_append_ap (B : Nat) (t ty e : TypeId) (i : TypeInfo) (ht : P.underlying t = some (.slice e)) (hi : P.info? e = some i) (hz : i.zero = some (.int .u8 0)) (hs : i.size = 1) (hb : i.bytes = 1)
    (v : Value) (bs : List Int) (hown : Own w B e v bs) (ao : Option Addr) (c : Nat) (zs : List Int) (hsrc : Src w ao zs) (hc : ao = none → c = 0)
    (hlen : bs.length + zs.length ≤ 70368744177664) (hB : B ≤ w.heap.size) :
    ∃ v' w', (Builtin.append_ #[t, t] ty #[v, .slice ao zs.length c]).run P w = .ok v' w' ∧ Own w' B e v' (bs ++ zs) ∧ Ap w w' v v' := by
  have hmx : bs.length + zs.length ≤ maxLen := by unfold maxLen; omega
  cases ao with
  | none =>
    obtain rfl := hsrc.1 rfl
    obtain rfl := hc rfl
    refine ⟨v, w, ?_, by simpa using hown, Ap.refl _ _⟩
    exact run_append_owned_none (P := P) w B t ty e i 1 ht hi v bs.length (I bs) hown
  | some ad =>
    rcases hown.2 with ⟨rfl, hn⟩ | ⟨g, cap, cur, rfl, hbg, hg, hnc, hcm, hcs, htake⟩
    · have hbs : bs = [] := List.eq_nil_of_length_eq_zero hn
      subst hbs
      obtain ⟨v', w', hr, h2, h3, _⟩ := run_append_own (P := P) w w.heap.size t ty e i (.int .u8 0) 1 1 ht hi hz hs hb rfl (by decide) (.slice none 0 0) 0 [] (World.ownsRow_nil _ _ _ _) ad zs.length c (I zs) (by simp [I]) hsrc.news (I_oneCell zs)
        (by simpa using hmx) (by simp at hlen; omega) (Nat.le_refl _)
      have h2' : Own w' w.heap.size e v' zs := by unfold Own; simpa using h2
      refine ⟨v', w', hr, by simpa using h2'.mono hB, h3, ?_⟩
      rcases h2.2 with ⟨rfl, _⟩ | ⟨g', _, _, rfl, hb', _⟩
      · exact .inl rfl
      · exact .inr ⟨g', rfl, hb'⟩
    · by_cases hroom : bs.length + zs.length ≤ cap
      · obtain ⟨w', hr, h2, h3⟩ := run_append_fits (P := P) w B t ty e i 1 ht hi hs g bs.length cap (I bs) hown ad zs.length c (I zs) (by simp [I]) hsrc.news (I_oneCell zs) hroom
        refine ⟨_, w', hr, ?_, h3, .inl rfl⟩
        unfold Own
        rw [I_append, List.length_append]
        exact h2
      · obtain ⟨v', w', hr, h2, h3⟩ := run_append_arg_grows (P := P) w t ty e i (.int .u8 0) 1 1 ht hi hz hs hb rfl (by decide) ⟨g, 0, none⟩ bs.length cap (I bs) (by simp [I]) (World.ownsRow.cells hown (g := g) rfl) ad zs.length c (I zs) (by simp [I]) hsrc.news
          (by omega) hmx (by omega)
        have h2' : Own w' w.heap.size e v' (bs ++ zs) := by unfold Own; rw [I_append, List.length_append]; exact h2
        refine ⟨v', w', hr, h2'.mono hB, ⟨h3.os, h3.tape, h3.output, h3.size, fun k hk _ => h3.block k hk (by simp)⟩, ?_⟩
        rcases h2.2 with ⟨rfl, hn⟩ | ⟨g', _, _, rfl, hb', _⟩
        · exfalso
          omega
        · exact .inr ⟨g', rfl, hb'⟩

theorem wpList_append_ap {ops : Array Oper} {rest : List Oper} {o : Oper} {a : Act} {Q : Exit → Act → World → Prop} (hgd : o.guard = none) (s x : Operand) (t : TypeId)
    (ho : o.op = .call { callee := .builtin .append, args := #[s, x], argTypes := #[t, t] })
    (B : Nat) (e : TypeId) (i : TypeInfo) (ht : P.underlying t = some (.slice e)) (hi : P.info? e = some i) (hz : i.zero = some (.int .u8 0)) (hs : i.size = 1) (hb : i.bytes = 1)
    (v : Value) (bs : List Int) (hv : a.eval s = v) (hown : Own w B e v bs) (ao : Option Addr) (n c : Nat) (zs : List Int) (hx : a.eval x = .slice ao n c) (hn : n = zs.length) (hsrc : Src w ao zs) (hc : ao = none → c = 0)
    (hlen : bs.length + zs.length ≤ 70368744177664) (hB : B ≤ w.heap.size)
    (h : ∀ v' w', Own w' B e v' (bs ++ zs) → Ap w w' v v' → wpList P ops Q rest (a.put o.dst v') w') : wpList P ops Q (o :: rest) a w := by
  subst hn
  obtain ⟨v', w', hr, h2, h3⟩ := run_append_ap (P := P) w B t o.type e i ht hi hz hs hb v bs hown ao c zs hsrc hc hlen hB
  refine wpList_plain hgd fun K hK => ?_
  unfold Oper.wp execOp
  simp only [ho, resolve, invoke, builtin, Sem.run_bind, Sem.run_pure, Result.andThen_ok, List.map_toArray, List.map_cons, List.map_nil, hv, hx, hr]
  exact hK _ _ (h v' w' h2 h3)
end

/-- The one block that the translation lays for 'append(b, x, y, ..)': what it holds. -/
theorem Src.lit (w : World) (zs : List Int) (t : TypeId) : Src (w.alloc (.cells (I zs).toArray t)) (some ⟨w.heap.size, 0, none⟩) zs := by
  refine ⟨(fun h => by cases h), fun ad hd j hj => ?_⟩
  obtain rfl := Option.some.inj hd
  rw [Addr.add_lit, cell_of_row _ _ _ _ t (0, 0) (heap_alloc_new w _)]
  simp [I, hj]

theorem apart_lit {w : World} {B : Nat} {e : TypeId} {v : Value} {bs : List Int} (h : Own w B e v bs) (zs : List Int) : Apart (some ⟨w.heap.size, 0, none⟩) zs v := by
  intro ad hd _ hc
  obtain rfl := Option.some.inj hd
  have := (h.lt _ hc.symm).2
  simp at this

theorem Src.litAt {w : World} {zs : List Int} {t : TypeId} {k : Nat} {cs : Array Value} (hk : k = w.heap.size) (hc : cs = (I zs).toArray) : Src (w.alloc (.cells cs t)) (some ⟨k, 0, none⟩) zs := by
  subst hk
  subst hc
  exact Src.lit w zs t

#print axioms wpList_append_ap
end Go.Proofs.Qxb6614035a
