/-
  No cell of these rows narrows 'for every input' (looked for: loops, veiled, ifaces, maps, wideKeys, modest, calm, conditions, laid).
  DERIVED. THE GIVEN ROWS OF THIS SEAT. 3 by the template 'for every input the law returns true; each argument reads behind the call as it read before'; 0 by the template 'total and deterministic' (their statements: YbulkmvgTotals.lean).
  GIVEN WITH THE SEED: the statements are not yours to turn. If you find one false, say at which input.
  Laid BY PROGRAM, IN A SANDBOX (cutbox-rows.mjs): the forced cells as the released guide's own fill.sh prints them over the translation f27530c67653126f… (all of the seat's roots in one cut). By AI agents, Wed Nov 11 2026. No macro, syntax, notation, axiom, sorry.
-/
import Derived.Test.YbulkmvgChecked
import GoSem.Claim
import GoSem.ClaimJoined
import GoSem.ClaimMapViews
import Derived.JoinedTies
import Derived.KernelRfl
namespace Go.Proofs.Ybulkmvg
/- THE CELL 'sum', in the pinned program and in every row, IS THE sha256 OF THE DUMP (.gsa) THAT YbulkmvgProg.lean LOADS. Nothing in Lean hashes anything: it is a label: what it is worth is what the hold of that sum in a sandbox is worth. -/
noncomputable def Yba.pinned : Pinned := { name := "ybulkmvg", sum := "f27530c67653126fb66aa20f04a8e1bd4bcbe4d961f2cd43c39e62100088b2b7", checked := Yba.checked }
namespace Rows
def none {H : Type} : Left H := { results := [], args := [] }

/-- 'knotwarden.LawS0669ACount': WHATEVER THE INPUT: true; the input reads as it did. -/
def lawS0669ACountSpec : ChangeSpec := { name := "lawS0669ACount", fn := fun _ => fun
  | [d] => { results := [.lit (.bool true)], args := [d] }
  | _ => none }
def lawS0669ACountRow : OpenClaim := { program := "ybulkmvg", sum := "f27530c67653126fb66aa20f04a8e1bd4bcbe4d961f2cd43c39e62100088b2b7", func := "example.com/knotwarden/knotwarden.LawS0669ACount", spec := "lawS0669ACount", recurses := true, plainKeys := false, apart := false }
def LawS0669ACountSaid : Prop := lawS0669ACountRow.holds Yba.pinned (OpenSpec.ofChange lawS0669ACountSpec)

/-- ITS FALSE NEIGHBOUR: 'it returns false'. Refute it at one input. -/
def lawS0669ACountWrong : ChangeSpec := { name := "lawS0669ACount", fn := fun _ => fun
  | [d] => { results := [.lit (.bool false)], args := [d] }
  | _ => none }
def LawS0669ACountWrongFalsely : Prop := lawS0669ACountRow.holds Yba.pinned (OpenSpec.ofChange lawS0669ACountWrong)

/-- 'knotwarden.LawS0669AFlat': WHATEVER THE INPUT: true; the input reads as it did. -/
def lawS0669AFlatSpec : ChangeSpec := { name := "lawS0669AFlat", fn := fun _ => fun
  | [d1, d2, d3] => { results := [.lit (.bool true)], args := [d1, d2, d3] }
  | _ => none }
def lawS0669AFlatRow : OpenClaim := { program := "ybulkmvg", sum := "f27530c67653126fb66aa20f04a8e1bd4bcbe4d961f2cd43c39e62100088b2b7", func := "example.com/knotwarden/knotwarden.LawS0669AFlat", spec := "lawS0669AFlat", recurses := true, plainKeys := false, apart := false }
def LawS0669AFlatSaid : Prop := lawS0669AFlatRow.holds Yba.pinned (OpenSpec.ofChange lawS0669AFlatSpec)

/-- ITS FALSE NEIGHBOUR: 'it returns false'. Refute it at one input. -/
def lawS0669AFlatWrong : ChangeSpec := { name := "lawS0669AFlat", fn := fun _ => fun
  | [d1, d2, d3] => { results := [.lit (.bool false)], args := [d1, d2, d3] }
  | _ => none }
def LawS0669AFlatWrongFalsely : Prop := lawS0669AFlatRow.holds Yba.pinned (OpenSpec.ofChange lawS0669AFlatWrong)

/-- 'knotwarden.LawS0669CSendsEach': WHATEVER THE INPUT: true; the input reads as it did. -/
def lawS0669CSendsEachSpec : ChangeSpec := { name := "lawS0669CSendsEach", fn := fun _ => fun
  | [d1, d2] => { results := [.lit (.bool true)], args := [d1, d2] }
  | _ => none }
def lawS0669CSendsEachRow : OpenClaim := { program := "ybulkmvg", sum := "f27530c67653126fb66aa20f04a8e1bd4bcbe4d961f2cd43c39e62100088b2b7", func := "example.com/knotwarden/knotwarden.LawS0669CSendsEach", spec := "lawS0669CSendsEach", unfollowed := true, recurses := true, plainKeys := false, apart := false }
def LawS0669CSendsEachSaid : Prop := lawS0669CSendsEachRow.holds Yba.pinned (OpenSpec.ofChange lawS0669CSendsEachSpec)

/-- ITS FALSE NEIGHBOUR: 'it returns false'. Refute it at one input. -/
def lawS0669CSendsEachWrong : ChangeSpec := { name := "lawS0669CSendsEach", fn := fun _ => fun
  | [d1, d2] => { results := [.lit (.bool false)], args := [d1, d2] }
  | _ => none }
def LawS0669CSendsEachWrongFalsely : Prop := lawS0669CSendsEachRow.holds Yba.pinned (OpenSpec.ofChange lawS0669CSendsEachWrong)

end Rows
end Go.Proofs.Ybulkmvg
