/-
  No cell of these rows narrows 'for every input' (looked for: loops, veiled, ifaces, maps, wideKeys, modest, calm, conditions, laid).
  DERIVED. THE GIVEN ROWS OF THIS SEAT. 4 by the template 'for every input the law returns true; each argument reads behind the call as it read before'; 0 by the template 'total and deterministic' (their statements: Qxb6613964aFmtTotals.lean).
  GIVEN WITH THE SEED: the statements are not yours to turn. If you find one false, say at which input.
  Laid BY PROGRAM, IN A SANDBOX (cutbox-rows.mjs): the forced cells as the released guide's own fill.sh prints them over the translation d75018b49f282058… (all of the seat's roots in one cut). By AI agents, Wed Nov 11 2026. No macro, syntax, notation, axiom, sorry.
-/
import Derived.Test.Qxb6613964aFmtChecked
import GoSem.Claim
import GoSem.ClaimJoined
import GoSem.ClaimMapViews
import Derived.JoinedTies
import Derived.KernelRfl
namespace Go.Proofs.Qxb6613964aFmt
/- THE CELL 'sum', in the pinned program and in every row, IS THE sha256 OF THE DUMP (.gsa) THAT Qxb6613964aFmtProg.lean LOADS. Nothing in Lean hashes anything: it is a label: what it is worth is what the hold of that sum in a sandbox is worth. -/
noncomputable def Tryf.pinned : Pinned := { name := "qxb6613964afmt", sum := "d75018b49f282058793c4dcb8d053ce85531c20777e68673587e92444b63303c", checked := Tryf.checked }
namespace Rows
def none {H : Type} : Left H := { results := [], args := [] }

/-- 'zzlaws_pkg_ct_b1.FnAppendNodeHashAnyCut': WHATEVER THE INPUT: true; the input reads as it did. -/
def fnAppendNodeHashAnyCutSpec : ChangeSpec := { name := "fnAppendNodeHashAnyCut", fn := fun _ => fun
  | [d1, d2, d3] => { results := [.lit (.bool true)], args := [d1, d2, d3] }
  | _ => none }
def fnAppendNodeHashAnyCutRow : OpenClaim := { program := "qxb6613964afmt", sum := "d75018b49f282058793c4dcb8d053ce85531c20777e68673587e92444b63303c", func := "example.com/loggia/loggia/zzlaws_pkg_ct_b1.FnAppendNodeHashAnyCut", spec := "fnAppendNodeHashAnyCut", stops := ["fmt.Sprintf"], inPlace := ["fmt.Sprintf"], apart := false }
/-- NO THEOREM (fmt's text is open here; it may be false): for the released tool's asking of the row's closed facts alone. THE STATEMENT IS 'FnAppendNodeHashAnyCutToldSaid' (Qxb6613964aFmtCards.lean). -/
def FnAppendNodeHashAnyCutFormAsk : Prop := fnAppendNodeHashAnyCutRow.holds Tryf.pinned (OpenSpec.ofChange fnAppendNodeHashAnyCutSpec)

/-- ITS FALSE NEIGHBOUR: 'it returns false'. Refute it at one input. -/
def fnAppendNodeHashAnyCutWrong : ChangeSpec := { name := "fnAppendNodeHashAnyCut", fn := fun _ => fun
  | [d1, d2, d3] => { results := [.lit (.bool false)], args := [d1, d2, d3] }
  | _ => none }
def FnAppendNodeHashAnyCutWrongFormAsk : Prop := fnAppendNodeHashAnyCutRow.holds Tryf.pinned (OpenSpec.ofChange fnAppendNodeHashAnyCutWrong)

/-- 'zzlaws_pkg_ct_b1.FnAppendNodeHashInsideTreeHead': WHATEVER THE INPUT: true; the input reads as it did. -/
def fnAppendNodeHashInsideTreeHeadSpec : ChangeSpec := { name := "fnAppendNodeHashInsideTreeHead", fn := fun _ => fun
  | [d1, d2, d3] => { results := [.lit (.bool true)], args := [d1, d2, d3] }
  | _ => none }
def fnAppendNodeHashInsideTreeHeadRow : OpenClaim := { program := "qxb6613964afmt", sum := "d75018b49f282058793c4dcb8d053ce85531c20777e68673587e92444b63303c", func := "example.com/loggia/loggia/zzlaws_pkg_ct_b1.FnAppendNodeHashInsideTreeHead", spec := "fnAppendNodeHashInsideTreeHead", stops := ["fmt.Sprintf"], inPlace := ["fmt.Sprintf"], named := ["encoding/binary.BigEndian"], apart := false }
/-- NO THEOREM (fmt's text is open here; it may be false): for the released tool's asking of the row's closed facts alone. THE STATEMENT IS 'FnAppendNodeHashInsideTreeHeadToldSaid' (Qxb6613964aFmtCards.lean). -/
def FnAppendNodeHashInsideTreeHeadFormAsk : Prop := fnAppendNodeHashInsideTreeHeadRow.holds Tryf.pinned (OpenSpec.ofChange fnAppendNodeHashInsideTreeHeadSpec)

/-- ITS FALSE NEIGHBOUR: 'it returns false'. Refute it at one input. -/
def fnAppendNodeHashInsideTreeHeadWrong : ChangeSpec := { name := "fnAppendNodeHashInsideTreeHead", fn := fun _ => fun
  | [d1, d2, d3] => { results := [.lit (.bool false)], args := [d1, d2, d3] }
  | _ => none }
def FnAppendNodeHashInsideTreeHeadWrongFormAsk : Prop := fnAppendNodeHashInsideTreeHeadRow.holds Tryf.pinned (OpenSpec.ofChange fnAppendNodeHashInsideTreeHeadWrong)

/-- 'zzlaws_pkg_ct_b1.FnSignedTreeHeadMarshalLayout': WHATEVER THE INPUT: true; the input reads as it did. -/
def fnSignedTreeHeadMarshalLayoutSpec : ChangeSpec := { name := "fnSignedTreeHeadMarshalLayout", fn := fun _ => fun
  | [d1, d2, d3, d4, d5] => { results := [.lit (.bool true)], args := [d1, d2, d3, d4, d5] }
  | _ => none }
def fnSignedTreeHeadMarshalLayoutRow : OpenClaim := { program := "qxb6613964afmt", sum := "d75018b49f282058793c4dcb8d053ce85531c20777e68673587e92444b63303c", func := "example.com/loggia/loggia/zzlaws_pkg_ct_b1.FnSignedTreeHeadMarshalLayout", spec := "fnSignedTreeHeadMarshalLayout", stops := ["fmt.Sprintf"], inPlace := ["fmt.Sprintf"], named := ["encoding/binary.BigEndian"], apart := false }
/-- NO THEOREM (fmt's text is open here; it may be false): for the released tool's asking of the row's closed facts alone. THE STATEMENT IS 'FnSignedTreeHeadMarshalLayoutToldSaid' (Qxb6613964aFmtCards.lean). -/
def FnSignedTreeHeadMarshalLayoutFormAsk : Prop := fnSignedTreeHeadMarshalLayoutRow.holds Tryf.pinned (OpenSpec.ofChange fnSignedTreeHeadMarshalLayoutSpec)

/-- ITS FALSE NEIGHBOUR: 'it returns false'. Refute it at one input. -/
def fnSignedTreeHeadMarshalLayoutWrong : ChangeSpec := { name := "fnSignedTreeHeadMarshalLayout", fn := fun _ => fun
  | [d1, d2, d3, d4, d5] => { results := [.lit (.bool false)], args := [d1, d2, d3, d4, d5] }
  | _ => none }
def FnSignedTreeHeadMarshalLayoutWrongFormAsk : Prop := fnSignedTreeHeadMarshalLayoutRow.holds Tryf.pinned (OpenSpec.ofChange fnSignedTreeHeadMarshalLayoutWrong)

/-- 'zzlaws_pkg_ct_b1.FnSignedTreeHeadMarshalInjective': WHATEVER THE INPUT: true; the input reads as it did. -/
def fnSignedTreeHeadMarshalInjectiveSpec : ChangeSpec := { name := "fnSignedTreeHeadMarshalInjective", fn := fun _ => fun
  | [d1, d2, d3, d4, d5, d6, d7, d8, d9, d10] => { results := [.lit (.bool true)], args := [d1, d2, d3, d4, d5, d6, d7, d8, d9, d10] }
  | _ => none }
def fnSignedTreeHeadMarshalInjectiveRow : OpenClaim := { program := "qxb6613964afmt", sum := "d75018b49f282058793c4dcb8d053ce85531c20777e68673587e92444b63303c", func := "example.com/loggia/loggia/zzlaws_pkg_ct_b1.FnSignedTreeHeadMarshalInjective", spec := "fnSignedTreeHeadMarshalInjective", stops := ["fmt.Sprintf"], inPlace := ["fmt.Sprintf"], named := ["encoding/binary.BigEndian"], apart := false }
/-- NO THEOREM (fmt's text is open here; it may be false): for the released tool's asking of the row's closed facts alone. THE STATEMENT IS 'FnSignedTreeHeadMarshalInjectiveToldSaid' (Qxb6613964aFmtCards.lean). -/
def FnSignedTreeHeadMarshalInjectiveFormAsk : Prop := fnSignedTreeHeadMarshalInjectiveRow.holds Tryf.pinned (OpenSpec.ofChange fnSignedTreeHeadMarshalInjectiveSpec)

/-- ITS FALSE NEIGHBOUR: 'it returns false'. Refute it at one input. -/
def fnSignedTreeHeadMarshalInjectiveWrong : ChangeSpec := { name := "fnSignedTreeHeadMarshalInjective", fn := fun _ => fun
  | [d1, d2, d3, d4, d5, d6, d7, d8, d9, d10] => { results := [.lit (.bool false)], args := [d1, d2, d3, d4, d5, d6, d7, d8, d9, d10] }
  | _ => none }
def FnSignedTreeHeadMarshalInjectiveWrongFormAsk : Prop := fnSignedTreeHeadMarshalInjectiveRow.holds Tryf.pinned (OpenSpec.ofChange fnSignedTreeHeadMarshalInjectiveWrong)

end Rows
end Go.Proofs.Qxb6613964aFmt
