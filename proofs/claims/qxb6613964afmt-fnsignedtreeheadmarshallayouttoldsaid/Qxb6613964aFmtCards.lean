/-
  DERIVED. GIVEN WITH THE SEED: THE CARDS: each row of Qxb6613964aFmtRows.lean that lists a variable, with what it lists TIED to the program's text (the seventh form; the later family's looks); each row that meets fmt, with fmt's text TOLD by the authors' own Lean function (tested against real Go, not proved from fmt's source: count such statements apart). THE CARD IS WHAT COUNTS. Prove the row's statement (the work); the ties are given (Qxb6613964aFmtTie.lean); close each card by the builder's one call (the guide's Derived/Test/ToyasCard.lean, 'card_holds'). Laid BY PROGRAM, IN A SANDBOX (cutbox-door.mjs). By AI agents, Wed Nov 11 2026. No macro, syntax, notation, axiom, sorry.
-/
import Derived.Test.Qxb6613964aFmtRows
import GoSem.ClaimSeven
namespace Go.Proofs.Qxb6613964aFmt
namespace Rows

/-- THE TOLD CARD OF 'zzlaws_pkg_ct_b1.FnAppendNodeHashAnyCut'. -/
def fnAppendNodeHashAnyCutCard : Claim7 := { stood := { row := fnAppendNodeHashAnyCutRow, standIns := [], harness := (true, "b974bd35f77e2fb0774471cd89b4c797f5668f4dfcd498058964dc2baf4d04f5"), looks := false }, told := true, goes := false }
def FnAppendNodeHashAnyCutToldSaid : Prop := Claim7.holds Tryf.pinned (.plain (OpenSpec.ofChange fnAppendNodeHashAnyCutSpec)) fnAppendNodeHashAnyCutCard
/-- ITS FALSE NEIGHBOUR. Refute it at one input. -/
def FnAppendNodeHashAnyCutToldWrongFalsely : Prop := Claim7.holds Tryf.pinned (.plain (OpenSpec.ofChange fnAppendNodeHashAnyCutWrong)) fnAppendNodeHashAnyCutCard

/-- THE TOLD CARD OF 'zzlaws_pkg_ct_b1.FnAppendNodeHashInsideTreeHead'. -/
def fnAppendNodeHashInsideTreeHeadCard : Claim7 := { stood := { row := fnAppendNodeHashInsideTreeHeadRow, standIns := [], harness := (true, "b974bd35f77e2fb0774471cd89b4c797f5668f4dfcd498058964dc2baf4d04f5"), looks := false }, told := true, goes := false }
def FnAppendNodeHashInsideTreeHeadToldSaid : Prop := Claim7.holds Tryf.pinned (.plain (OpenSpec.ofChange fnAppendNodeHashInsideTreeHeadSpec)) fnAppendNodeHashInsideTreeHeadCard
/-- ITS FALSE NEIGHBOUR. Refute it at one input. -/
def FnAppendNodeHashInsideTreeHeadToldWrongFalsely : Prop := Claim7.holds Tryf.pinned (.plain (OpenSpec.ofChange fnAppendNodeHashInsideTreeHeadWrong)) fnAppendNodeHashInsideTreeHeadCard

/-- THE TOLD CARD OF 'zzlaws_pkg_ct_b1.FnSignedTreeHeadMarshalLayout'. -/
def fnSignedTreeHeadMarshalLayoutCard : Claim7 := { stood := { row := fnSignedTreeHeadMarshalLayoutRow, standIns := [], harness := (true, "b974bd35f77e2fb0774471cd89b4c797f5668f4dfcd498058964dc2baf4d04f5"), looks := false }, told := true, goes := false }
def FnSignedTreeHeadMarshalLayoutToldSaid : Prop := Claim7.holds Tryf.pinned (.plain (OpenSpec.ofChange fnSignedTreeHeadMarshalLayoutSpec)) fnSignedTreeHeadMarshalLayoutCard
/-- ITS FALSE NEIGHBOUR. Refute it at one input. -/
def FnSignedTreeHeadMarshalLayoutToldWrongFalsely : Prop := Claim7.holds Tryf.pinned (.plain (OpenSpec.ofChange fnSignedTreeHeadMarshalLayoutWrong)) fnSignedTreeHeadMarshalLayoutCard

/-- THE TOLD CARD OF 'zzlaws_pkg_ct_b1.FnSignedTreeHeadMarshalInjective'. -/
def fnSignedTreeHeadMarshalInjectiveCard : Claim7 := { stood := { row := fnSignedTreeHeadMarshalInjectiveRow, standIns := [], harness := (true, "b974bd35f77e2fb0774471cd89b4c797f5668f4dfcd498058964dc2baf4d04f5"), looks := false }, told := true, goes := false }
def FnSignedTreeHeadMarshalInjectiveToldSaid : Prop := Claim7.holds Tryf.pinned (.plain (OpenSpec.ofChange fnSignedTreeHeadMarshalInjectiveSpec)) fnSignedTreeHeadMarshalInjectiveCard
/-- ITS FALSE NEIGHBOUR. Refute it at one input. -/
def FnSignedTreeHeadMarshalInjectiveToldWrongFalsely : Prop := Claim7.holds Tryf.pinned (.plain (OpenSpec.ofChange fnSignedTreeHeadMarshalInjectiveWrong)) fnSignedTreeHeadMarshalInjectiveCard
end Rows
end Go.Proofs.Qxb6613964aFmt
