/-
  No cell of these rows narrows 'for every input' (looked for: loops, veiled, ifaces, maps, wideKeys, modest, calm, conditions, laid).
  DERIVED. THE GIVEN ROWS OF THIS SEAT. 3 by the template 'for every input the law returns true; each argument reads behind the call as it read before'; 0 by the template 'total and deterministic' (their statements: YbulkmvuTotals.lean).
  GIVEN WITH THE SEED: the statements are not yours to turn. If you find one false, say at which input.
  Laid BY PROGRAM, IN A SANDBOX (cutbox-rows.mjs): the forced cells as the released guide's own fill.sh prints them over the translation efa0c6e6110d1fc5… (all of the seat's roots in one cut). By AI agents, Wed Nov 11 2026. No macro, syntax, notation, axiom, sorry.
-/
import Derived.Test.YbulkmvuChecked
import GoSem.Claim
import GoSem.ClaimJoined
import GoSem.ClaimMapViews
import Derived.JoinedTies
import Derived.KernelRfl
namespace Go.Proofs.Ybulkmvu
/- THE CELL 'sum', in the pinned program and in every row, IS THE sha256 OF THE DUMP (.gsa) THAT YbulkmvuProg.lean LOADS. Nothing in Lean hashes anything: it is a label: what it is worth is what the hold of that sum in a sandbox is worth. -/
noncomputable def Yba.pinned : Pinned := { name := "ybulkmvu", sum := "efa0c6e6110d1fc5301a9ad6eede432676719fce38e77ac80b78a5d5d1d92de4", checked := Yba.checked }
namespace Rows
def none {H : Type} : Left H := { results := [], args := [] }

/-- 'pagewright.LawS0670BScript': WHATEVER THE INPUT: true; the input reads as it did. -/
def lawS0670BScriptSpec : ChangeSpec := { name := "lawS0670BScript", fn := fun _ => fun
  | [d] => { results := [.lit (.bool true)], args := [d] }
  | _ => none }
def lawS0670BScriptRow : OpenClaim := { program := "ybulkmvu", sum := "efa0c6e6110d1fc5301a9ad6eede432676719fce38e77ac80b78a5d5d1d92de4", func := "example.com/pagewright/pagewright.LawS0670BScript", spec := "lawS0670BScript", apart := false }
def LawS0670BScriptSaid : Prop := lawS0670BScriptRow.holds Yba.pinned (OpenSpec.ofChange lawS0670BScriptSpec)

/-- ITS FALSE NEIGHBOUR: 'it returns false'. Refute it at one input. -/
def lawS0670BScriptWrong : ChangeSpec := { name := "lawS0670BScript", fn := fun _ => fun
  | [d] => { results := [.lit (.bool false)], args := [d] }
  | _ => none }
def LawS0670BScriptWrongFalsely : Prop := lawS0670BScriptRow.holds Yba.pinned (OpenSpec.ofChange lawS0670BScriptWrong)

/-- 'pagewright.LawS0670BDrain': WHATEVER THE INPUT: true; the input reads as it did. -/
def lawS0670BDrainSpec : ChangeSpec := { name := "lawS0670BDrain", fn := fun _ => fun
  | [d1, d2] => { results := [.lit (.bool true)], args := [d1, d2] }
  | _ => none }
def lawS0670BDrainRow : OpenClaim := { program := "ybulkmvu", sum := "efa0c6e6110d1fc5301a9ad6eede432676719fce38e77ac80b78a5d5d1d92de4", func := "example.com/pagewright/pagewright.LawS0670BDrain", spec := "lawS0670BDrain", apart := false }
def LawS0670BDrainSaid : Prop := lawS0670BDrainRow.holds Yba.pinned (OpenSpec.ofChange lawS0670BDrainSpec)

/-- ITS FALSE NEIGHBOUR: 'it returns false'. Refute it at one input. -/
def lawS0670BDrainWrong : ChangeSpec := { name := "lawS0670BDrain", fn := fun _ => fun
  | [d1, d2] => { results := [.lit (.bool false)], args := [d1, d2] }
  | _ => none }
def LawS0670BDrainWrongFalsely : Prop := lawS0670BDrainRow.holds Yba.pinned (OpenSpec.ofChange lawS0670BDrainWrong)

/-- 'pagewright.LawS0670CIdle': WHATEVER THE INPUT: true; the input reads as it did. -/
def lawS0670CIdleSpec : ChangeSpec := { name := "lawS0670CIdle", fn := fun _ => fun
  | [d1, d2, d3, d4, d5] => { results := [.lit (.bool true)], args := [d1, d2, d3, d4, d5] }
  | _ => none }
def lawS0670CIdleRow : OpenClaim := { program := "ybulkmvu", sum := "efa0c6e6110d1fc5301a9ad6eede432676719fce38e77ac80b78a5d5d1d92de4", func := "example.com/pagewright/pagewright.LawS0670CIdle", spec := "lawS0670CIdle", apart := false }
def LawS0670CIdleSaid : Prop := lawS0670CIdleRow.holds Yba.pinned (OpenSpec.ofChange lawS0670CIdleSpec)

/-- ITS FALSE NEIGHBOUR: 'it returns false'. Refute it at one input. -/
def lawS0670CIdleWrong : ChangeSpec := { name := "lawS0670CIdle", fn := fun _ => fun
  | [d1, d2, d3, d4, d5] => { results := [.lit (.bool false)], args := [d1, d2, d3, d4, d5] }
  | _ => none }
def LawS0670CIdleWrongFalsely : Prop := lawS0670CIdleRow.holds Yba.pinned (OpenSpec.ofChange lawS0670CIdleWrong)

end Rows
end Go.Proofs.Ybulkmvu
