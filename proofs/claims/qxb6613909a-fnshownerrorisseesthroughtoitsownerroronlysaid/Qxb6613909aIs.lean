import Derived.Test.Qxb6613909aChecked
import Derived.WalkKit
import Derived.ProofKit
import Derived.LaidEql
import Derived.Stop.Asserts
import Derived.RowKitTokens
import Derived.WalkSpells
import Derived.WalkLawsBesides
namespace Go.Proofs.Qxb6613909a
open Go.RowKit Go.Extern.Stop Go.Stop Go.Extern

/-! ### What 'reflectlite.TypeOf(target).Comparable()' gives at a pointer to an oidc.Error -/
theorem Try.isTypeOf (v : Value) (w : World) : (Extern.ReflectliteType.typeOf #[.iface 28 v]).run Try.prog w = .ok (.iface 49 (.agg #[.pointer (some ⟨0, 28, none⟩)])) w := by kernel_rfl
/-- The model's entry for (rtype).Comparable. -/
def cmpFn : Array Value → Sem Value := Extern.ReflectliteType.method fun t => do Extern.Rtype.noPackHeld "Comparable" t; pure (.bool (← typeInfo t).comparable)
theorem Try.isComparable (w : World) : (cmpFn #[.agg #[.pointer (some ⟨0, 28, none⟩)]]).run Try.prog w = .ok (.bool true) w := by kernel_rfl
theorem Try.isMethodComparable (v : Value) (w : World) : (Go.method 193 49 v "Comparable").run Try.prog w = .ok (39, v) w := by kernel_rfl
theorem Try.isComp : (Try.prog.info? 28).map (·.comparable) = some true := by kernel_rfl
theorem Try.isSize : (Try.prog.info? 30).map (·.size) = some 2 := by kernel_rfl

/-! ### The method sets: what errors.is's assertions find -/
theorem Try.noIsE (v : Value) (xT : TypeId) (w : World) : (Instr.typeAssert (.iface 28 v) xT 51 true).run Try.prog w = .ok (.tuple #[.nilIface, .bool false]) w := run_typeAssert_lacksB Try.underlying51 (by kernel_rfl) (by kernel_rfl) v xT w
theorem Try.noUnwrapE (v : Value) (xT : TypeId) (w : World) : (Instr.typeAssert (.iface 28 v) xT 54 true).run Try.prog w = .ok (.tuple #[.nilIface, .bool false]) w := run_typeAssert_lacksB Try.underlying54 (by kernel_rfl) (by kernel_rfl) v xT w
theorem Try.noUnwrapsE (v : Value) (xT : TypeId) (w : World) : (Instr.typeAssert (.iface 28 v) xT 56 true).run Try.prog w = .ok (.tuple #[.nilIface, .bool false]) w := run_typeAssert_lacksB Try.underlying56 (by kernel_rfl) (by kernel_rfl) v xT w
theorem Try.noIsW (v : Value) (xT : TypeId) (w : World) : (Instr.typeAssert (.iface 41 v) xT 51 true).run Try.prog w = .ok (.tuple #[.nilIface, .bool false]) w := run_typeAssert_lacksB Try.underlying51 (by kernel_rfl) (by kernel_rfl) v xT w
theorem Try.hasUnwrapW (v : Value) (xT : TypeId) (w : World) : (Instr.typeAssert (.iface 41 v) xT 54 true).run Try.prog w = .ok (.tuple #[.iface 41 v, .bool true]) w := run_typeAssert_hasB Try.underlying54 (by kernel_rfl) v xT w
theorem Try.methodUnwrap (v : Value) (w : World) : (Go.method 193 41 v "Unwrap").run Try.prog w = .ok (35, v) w := by kernel_rfl

set_option maxRecDepth 10000 in
set_option maxHeartbeats 400000 in
/-- (shownError).Unwrap() -/
theorem unwrap_any (u : Value) (w : World) : Calls Try.prog 35 #[.agg #[u]] w fun e w' => e = .returned u ∧ w' = w.alloc (.cells #[u] 41) := by
  go_enter Try.func35, Try.ntmps35
  go_wp2
  go_ret
  exact ⟨rfl, rfl⟩

set_option maxRecDepth 10000 in
set_option maxHeartbeats 400000 in
/-- errors.Is(shownError{x}, x), x a pointer to an oidc.Error. -/
theorem is_wrap_same (b : Addr) (w : World) :
    Calls Try.prog 15 #[.iface 41 (.agg #[.iface 28 (.pointer (some b))]), .iface 28 (.pointer (some b))] w fun e w' => e = .returned (.bool true) ∧ w' = w.alloc (.cells #[.iface 28 (.pointer (some b))] 41) := by
  obtain ⟨i, hi, hcmp⟩ := Option.map_eq_some_iff.1 Try.isComp
  obtain ⟨j, hj, hjs⟩ := Option.map_eq_some_iff.1 Try.isSize
  have h8 := @run_callFunc_extern Try.prog 16 _ Extern.ReflectliteType.typeOf Try.func16 (by kernel_rfl) (by kernel_rfl) (by kernel_rfl) (by kernel_rfl)
  have h32 := @run_callFunc_extern Try.prog 39 _ cmpFn Try.func39 (by kernel_rfl) (by kernel_rfl) (by kernel_rfl) (by kernel_rfl)
  have tT := Try.isTypeOf
  have cT := Try.isComparable
  have mR := Try.isMethodComparable
  have nE := Try.noIsE
  have uE := Try.noUnwrapE
  have vE := Try.noUnwrapsE
  have nW := Try.noIsW
  have uW := Try.hasUnwrapW
  have mU := Try.methodUnwrap
  have heq := fun wx => run_eql_iface_ptr_same (P := Try.prog) wx b Try.underlying39 Try.underlying28 hi hcmp hj
  have hty := fun wx => run_eql_iface_types (P := Try.prog) 41 28 (.agg #[.iface 28 (.pointer (some b))]) (.pointer (some b)) Try.underlying39 (by decide) wx
  go_enter Try.func15, Try.ntmps15
  go_wp2
  refine wp_loop_rounds 2 ?_
  rw [rounds_succ]
  go_wp2
  rw [rounds_succ]
  go_wp2
  go_ret
  exact ⟨rfl, rfl⟩
set_option maxRecDepth 10000 in
set_option maxHeartbeats 400000 in
/-- errors.Is(shownError{x}, y), x and y two pointers to different blocks. -/
theorem is_wrap_other (a b : Addr) (ca cb : Array Value) (ta tb : TypeId) (w : World) (hne : a ≠ b) (ha : w.heap[a.block]? = some (.cells ca ta (0, 0))) (hb : w.heap[b.block]? = some (.cells cb tb (0, 0))) :
    Calls Try.prog 15 #[.iface 41 (.agg #[.iface 28 (.pointer (some a))]), .iface 28 (.pointer (some b))] w fun e w' => e = .returned (.bool false) ∧ w' = w.alloc (.cells #[.iface 28 (.pointer (some a))] 41) := by
  obtain ⟨i, hi, hcmp⟩ := Option.map_eq_some_iff.1 Try.isComp
  obtain ⟨j, hj, hjs⟩ := Option.map_eq_some_iff.1 Try.isSize
  have h8 := @run_callFunc_extern Try.prog 16 _ Extern.ReflectliteType.typeOf Try.func16 (by kernel_rfl) (by kernel_rfl) (by kernel_rfl) (by kernel_rfl)
  have h32 := @run_callFunc_extern Try.prog 39 _ cmpFn Try.func39 (by kernel_rfl) (by kernel_rfl) (by kernel_rfl) (by kernel_rfl)
  have tT := Try.isTypeOf
  have cT := Try.isComparable
  have mR := Try.isMethodComparable
  have nE := Try.noIsE
  have uE := Try.noUnwrapE
  have vE := Try.noUnwrapsE
  have nW := Try.noIsW
  have uW := Try.hasUnwrapW
  have mU := Try.methodUnwrap
  have ha' : (w.alloc (.cells #[.iface 28 (.pointer (some a))] 41)).heap[a.block]? = some (.cells ca ta (0, 0)) := by rw [Below.heap_alloc _ _ _ (Array.getElem?_eq_some_iff.1 ha).1]; exact ha
  have hb' : (w.alloc (.cells #[.iface 28 (.pointer (some a))] 41)).heap[b.block]? = some (.cells cb tb (0, 0)) := by rw [Below.heap_alloc _ _ _ (Array.getElem?_eq_some_iff.1 hb).1]; exact hb
  have heq := run_eql_iface_ptr_other (P := Try.prog) (w.alloc (.cells #[.iface 28 (.pointer (some a))] 41)) Try.underlying39 Try.underlying28 hi hcmp hj (by rw [hjs]; decide) hne ha' hb'
  have hty := fun wx => run_eql_iface_types (P := Try.prog) 41 28 (.agg #[.iface 28 (.pointer (some a))]) (.pointer (some b)) Try.underlying39 (by decide) wx
  go_enter Try.func15, Try.ntmps15
  go_wp2
  refine wp_loop_rounds 2 ?_
  rw [rounds_succ]
  go_wp2
  rw [rounds_succ]
  go_wp2
  go_ret
  exact ⟨rfl, rfl⟩
end Go.Proofs.Qxb6613909a
