/-
  DERIVED. GIVEN WITH THE SEED: THE CARDS: each row of YbulkmvuFmtRows.lean that lists a variable, with what it lists TIED to the program's text (the seventh form; the later family's looks); each row that meets fmt, with fmt's text TOLD by the authors' own Lean function (tested against real Go, not proved from fmt's source: count such statements apart). THE CARD IS WHAT COUNTS. Prove the row's statement (the work); the ties are given (YbulkmvuFmtTie.lean); close each card by the builder's one call (the guide's Derived/Test/ToyasCard.lean, 'card_holds'). Laid BY PROGRAM, IN A SANDBOX (cutbox-door.mjs). By AI agents, Wed Nov 11 2026. No macro, syntax, notation, axiom, sorry.
-/
import Derived.Test.YbulkmvuFmtRows
import GoSem.ClaimSeven
namespace Go.Proofs.YbulkmvuFmt
namespace Rows

/-- THE TOLD AND TIED CARD OF 'pagewright.LawS0670AHeader'. -/
def lawS0670AHeaderCard : Claim7 := { stood := { row := lawS0670AHeaderRow, standIns := [], harness := (true, "e2d625ef60c149f9d257b176161b05e92000659529cf66b95c380e251e0d4024"), looks := true }, told := true, laidByText := true, laidKinds := [.data, .data, .data, .called, .called], laidTests := true, laidLooks := .later, goes := false }
def LawS0670AHeaderToldSaid : Prop := Claim7.holds Ybaf.pinned (.plain (OpenSpec.ofChange lawS0670AHeaderSpec)) lawS0670AHeaderCard
/-- ITS FALSE NEIGHBOUR. Refute it at one input. -/
def LawS0670AHeaderToldWrongFalsely : Prop := Claim7.holds Ybaf.pinned (.plain (OpenSpec.ofChange lawS0670AHeaderWrong)) lawS0670AHeaderCard

/-- THE TOLD AND TIED CARD OF 'pagewright.LawS0670AScript'. -/
def lawS0670AScriptCard : Claim7 := { stood := { row := lawS0670AScriptRow, standIns := [], harness := (true, "e2d625ef60c149f9d257b176161b05e92000659529cf66b95c380e251e0d4024"), looks := true }, told := true, laidByText := true, laidKinds := [.data, .data, .data, .called, .called], laidTests := true, laidLooks := .later, goes := false }
def LawS0670AScriptToldSaid : Prop := Claim7.holds Ybaf.pinned (.plain (OpenSpec.ofChange lawS0670AScriptSpec)) lawS0670AScriptCard
/-- ITS FALSE NEIGHBOUR. Refute it at one input. -/
def LawS0670AScriptToldWrongFalsely : Prop := Claim7.holds Ybaf.pinned (.plain (OpenSpec.ofChange lawS0670AScriptWrong)) lawS0670AScriptCard
end Rows
end Go.Proofs.YbulkmvuFmt
