import Derived.Test.Qxb6613964aFmtCards
import Derived.Test.Qxb6613964aFmtBase
import Derived.WalkKit
import Derived.ProofKit
import Derived.OpenShut
import Derived.ShutString
import Derived.ChangeOld
import Derived.Below
import Derived.ChangeSlices
import Derived.Carry
import Derived.Stop.JoinedAt
import Derived.Stop.JoinedTold
import Derived.SevenToldRow
namespace Go.Proofs.Qxb6613964aFmt
open Go.ChangeShapes Go.WideShapes Go.ChangeAt Go.RowKit

theorem Tryf.own : ownKnob Tryf.prog.godebug = none := by kernel_rfl
theorem Tryf.laidOut : laidOutB Tryf.pinned.checked.prog = true := by kernel_rfl
theorem Tryf.laidOut' : laidOutB Tryf.prog = true := by kernel_rfl
theorem Tryf.one5 : Tryf.prog.cellsOf 5 = 1 := by kernel_rfl
theorem Tryf.cells23 : Tryf.prog.cellsOf 23 = 32 := by kernel_rfl
theorem Tryf.stops : Tryf.pinned.checked.prog.stops = ["fmt.Sprintf"] := by kernel_rfl
theorem Tryf.stopKnobs : Tryf.pinned.checked.prog.stopKnobs = [] := by kernel_rfl
theorem Tryf.quiet (os : Os) : Stop.quiet Tryf.pinned.checked.prog os := by
  intro k hk
  rw [Tryf.stopKnobs] at hk
  cases hk

section
variable {H : Type} {enc : TypeId × Value → H} {W : World} {base : Nat}

/-- A slice of bytes that came in, as the walks take it. -/
theorem openBytes {v : Value} {d : DataW H} {p : List MemPlace} (hv : Value.okWide Tryf.prog W .any base 22 v) (h : DataW.Trod enc Tryf.prog W 0 (fun _ => true) true 22 v d p) :
    ∃ (a : Option Addr) (n c : Nat) (zs : List Int), v = .slice a n c ∧ zs.length = n ∧ n ≤ maxLen ∧ Src W a zs ∧ (a = none → c = 0) := by
  obtain ⟨a, n, c, rfl⟩ := okWide_slice Tryf.underlying22 hv
  obtain ⟨fuel, hf⟩ := h
  rcases open_ints Tryf.underlying22 Tryf.underlying5 Tryf.one5 hf with ⟨hcs, _⟩ | ⟨x, l, c', zs, hcs, _, hl, hm, hz, _, hcell, _⟩
  · simp [Value.cells] at hcs
    obtain ⟨rfl, rfl, rfl⟩ := hcs
    exact ⟨none, 0, 0, [], rfl, rfl, Nat.zero_le _, ⟨fun _ => rfl, fun ad hd => by cases hd⟩, fun _ => rfl⟩
  · simp [Value.cells] at hcs
    obtain ⟨rfl, rfl, rfl⟩ := hcs
    have hz' : zs.length = c := by simpa using hz
    refine ⟨some x, n, c, zs.take n, rfl, by simp; omega, by omega, ⟨(fun hd => by cases hd), fun ad hd j hj => ?_⟩, fun hd => by cases hd⟩
    obtain rfl := Option.some.inj hd
    have hjn : j < n := by simp at hj; omega
    rw [hcell j (by omega)]
    simp [hjn]

/-- A [32]byte that came in, as the walks take it. -/
theorem openHash {v : Value} {d : DataW H} {p : List MemPlace} (hv : Value.okWide Tryf.prog W .any base 23 v) (h : DataW.Trod enc Tryf.prog W 0 (fun _ => true) true 23 v d p) :
    ∃ r : List Int, v = .agg (I r).toArray ∧ r.length = 32 := by
  obtain ⟨cs, rfl, hsz, _⟩ : ∃ cs, v = .agg cs ∧ cs.size = Tryf.prog.cellsOf 23 ∧ Row.okWide Tryf.prog W .any base 23 cs := by
    simpa [Value.okWide, Tryf.underlying23] using hv
  rw [Tryf.cells23] at hsz
  obtain ⟨fuel, hf⟩ := h
  obtain ⟨xs, m, _, _, _, hxl, hx⟩ := DataW.trod_array Tryf.underlying23 hf
  refine ⟨cs.toList.map intOf, ?_, by simp [hsz]⟩
  congr 1
  apply Array.toList_inj.1
  simp only [I, List.map_map]
  apply List.ext_getElem (by simp)
  intro i h1 h2
  have hi : i < 32 := by simpa [hsz] using h1
  have hxi := hx i hi
  rw [Tryf.one5, Nat.mul_one, List.getElem?_eq_getElem (by omega)] at hxi
  obtain ⟨x, e0, _, _⟩ := DataW.trod_int Tryf.underlying5 hxi
  have e1 : (Value.agg cs).cells.toList[i]? = some (.int .u8 x) := by
    have := congrArg (·[0]?) e0
    simpa using this
  have e2 : cs.toList[i]? = some (.int .u8 x) := e1
  rw [List.getElem?_eq_getElem h1] at e2
  simp only [List.getElem_map, Function.comp]
  rw [Option.some.inj e2]
  rfl
end
end Go.Proofs.Qxb6613964aFmt
