/-
  A start that fits: a world in which the five listed variables hold what their initialisers lay (after the kit's PortLaid, turned to this program).
-/
import Derived.Test.YbulkmvuFmtRows
import Derived.Deep.DeepWitnessRowRef
import Derived.Deep.DeepWitnessRef
import Derived.Lib.LaidIn
import Derived.ProofKit
import Derived.Stop.Joined
namespace Go.Proofs.YbulkmvuFmt

/-- One variable's cells. -/
def put (h : Array Obj) (g : Nat) (cs : Array Value) : Array Obj := h.modify g fun
  | .cells _ t frozen => .cells cs t frozen
  | o => o
/-- The heap with the variables laid; N: the number of the first new block. -/
def laidHeap (h : Array Obj) (N : Nat) : Array Obj :=
  put (put (put (put (put h 1 #[.iface 75 (.pointer (some ⟨N + 1, 0, none⟩))]) 2 #[.iface 75 (.pointer (some ⟨N, 0, none⟩))]) 0 #[.int .u64 1, .int .u64 10, .int .u64 100, .int .u64 1000, .int .u64 10000, .int .u64 100000, .int .u64 1000000, .int .u64 10000000, .int .u64 100000000, .int .u64 1000000000, .int .u64 10000000000, .int .u64 100000000000, .int .u64 1000000000000, .int .u64 10000000000000, .int .u64 100000000000000, .int .u64 1000000000000000, .int .u64 10000000000000000, .int .u64 100000000000000000, .int .u64 1000000000000000000, .int .u64 10000000000000000000]) 3 #[.int .u8 0, .int .u8 1, .int .u8 28, .int .u8 2, .int .u8 29, .int .u8 14, .int .u8 24, .int .u8 3, .int .u8 30, .int .u8 22, .int .u8 20, .int .u8 15, .int .u8 25, .int .u8 17, .int .u8 4, .int .u8 8, .int .u8 31, .int .u8 27, .int .u8 13, .int .u8 23, .int .u8 21, .int .u8 19, .int .u8 16, .int .u8 7, .int .u8 26, .int .u8 12, .int .u8 18, .int .u8 6, .int .u8 11, .int .u8 5, .int .u8 10, .int .u8 9]) 4 #[.int .u8 0, .int .u8 1, .int .u8 56, .int .u8 2, .int .u8 57, .int .u8 49, .int .u8 28, .int .u8 3, .int .u8 61, .int .u8 58, .int .u8 42, .int .u8 50, .int .u8 38, .int .u8 29, .int .u8 17, .int .u8 4, .int .u8 62, .int .u8 47, .int .u8 59, .int .u8 36, .int .u8 45, .int .u8 43, .int .u8 51, .int .u8 22, .int .u8 53, .int .u8 39, .int .u8 33, .int .u8 30, .int .u8 24, .int .u8 18, .int .u8 12, .int .u8 5, .int .u8 63, .int .u8 55, .int .u8 48, .int .u8 27, .int .u8 60, .int .u8 41, .int .u8 37, .int .u8 16, .int .u8 46, .int .u8 35, .int .u8 44, .int .u8 21, .int .u8 52, .int .u8 32, .int .u8 23, .int .u8 11, .int .u8 54, .int .u8 26, .int .u8 40, .int .u8 15, .int .u8 34, .int .u8 20, .int .u8 31, .int .u8 10, .int .u8 25, .int .u8 14, .int .u8 19, .int .u8 9, .int .u8 13, .int .u8 8, .int .u8 7, .int .u8 6]

set_option maxRecDepth 1000000 in
/-- There is a start that fits the header's row. -/
theorem header_start (os : Os) {H : Type} (enc : TypeId × Value → H) : ∃ w0 : World, w0.os = os ∧ (w0.forCall (fun _ _ => 0) ⟨#[], #[.string ⟨#[]⟩, .slice none 0 0], []⟩).variablesRefB Ybaf.prog = true ∧
    ((w0.forCall (fun _ _ => 0) ⟨#[], #[.string ⟨#[]⟩, .slice none 0 0], []⟩).heap.toList.drop Ybaf.prog.globals.size).take ((begin Ybaf.prog (fun _ _ => 0) default).world.heap.size - Ybaf.prog.globals.size) =
      (begin Ybaf.prog (fun _ _ => 0) default).world.heap.toList.drop Ybaf.prog.globals.size ∧
    Input.okWideB Ybaf.prog (w0.forCall (fun _ _ => 0) ⟨#[], #[.string ⟨#[]⟩, .slice none 0 0], []⟩) 3 ⟨#[], #[.string ⟨#[]⟩, .slice none 0 0], []⟩ = true ∧
    (OpenSpec.ofChange Rows.lawS0670AHeaderSpec).preRow enc Ybaf.prog Ybaf.f3 Rows.lawS0670AHeaderRow.domain false Rows.lawS0670AHeaderRow.laid (w0.forCall (fun _ _ => 0) ⟨#[], #[.string ⟨#[]⟩, .slice none 0 0], []⟩).memory #[.string ⟨#[]⟩, .slice none 0 0] := by
  refine ⟨{ World.holding Ybaf.prog os ⟨#[.cells #[.string ⟨#[118, 97, 108, 117, 101, 32, 111, 117, 116, 32, 111, 102, 32, 114, 97, 110, 103, 101]⟩] 77, .cells #[.string ⟨#[105, 110, 118, 97, 108, 105, 100, 32, 115, 121, 110, 116, 97, 120]⟩] 77], #[], []⟩ with heap := laidHeap (World.holding Ybaf.prog os ⟨#[.cells #[.string ⟨#[118, 97, 108, 117, 101, 32, 111, 117, 116, 32, 111, 102, 32, 114, 97, 110, 103, 101]⟩] 77, .cells #[.string ⟨#[105, 110, 118, 97, 108, 105, 100, 32, 115, 121, 110, 116, 97, 120]⟩] 77], #[], []⟩).heap (World.settled Ybaf.prog os).heap.size }, rfl, by kernel_rfl, by kernel_rfl, by kernel_rfl, ?_⟩
  generalize hw : ({ World.holding Ybaf.prog os ⟨#[.cells #[.string ⟨#[118, 97, 108, 117, 101, 32, 111, 117, 116, 32, 111, 102, 32, 114, 97, 110, 103, 101]⟩] 77, .cells #[.string ⟨#[105, 110, 118, 97, 108, 105, 100, 32, 115, 121, 110, 116, 97, 120]⟩] 77], #[], []⟩ with heap := laidHeap (World.holding Ybaf.prog os ⟨#[.cells #[.string ⟨#[118, 97, 108, 117, 101, 32, 111, 117, 116, 32, 111, 102, 32, 114, 97, 110, 103, 101]⟩] 77, .cells #[.string ⟨#[105, 110, 118, 97, 108, 105, 100, 32, 115, 121, 110, 116, 97, 120]⟩] 77], #[], []⟩).heap (World.settled Ybaf.prog os).heap.size } : World) = w0
  have hl : laidMet Ybaf.prog Rows.lawS0670AHeaderRow.laid (w0.forCall (fun _ _ => 0) ⟨#[], #[.string ⟨#[]⟩, .slice none 0 0], []⟩).memory := by
    rw [← hw]
    exact (LaidIn.of_run [3, 4, 0, 2, (World.settled Ybaf.prog default).heap.size, 1, (World.settled Ybaf.prog default).heap.size + 1] 10 (by kernel_rfl) (by kernel_rfl) (by kernel_rfl) (by kernel_rfl)).met
  have hx : (DataW.whole enc Ybaf.prog (w0.forCall (fun _ _ => 0) ⟨#[], #[.string ⟨#[]⟩, .slice none 0 0], []⟩).memory Ybaf.f3.params.toList (OpenSpec.ofChange Rows.lawS0670AHeaderSpec).vars false #[Value.string ⟨#[]⟩, .slice none 0 0].toList 8).map (fun x => (x.1, x.2.1)) =
      some ([.lit (.string []), .nil], []) := by
    rw [← hw]
    kernel_rfl
  have hz : (OpenSpec.ofChange Rows.lawS0670AHeaderSpec).bare.sizedB enc Ybaf.prog Ybaf.f3 false (w0.forCall (fun _ _ => 0) ⟨#[], #[.string ⟨#[]⟩, .slice none 0 0], []⟩).memory #[.string ⟨#[]⟩, .slice none 0 0] 8 = true := by
    rw [← hw]
    kernel_rfl
  obtain ⟨⟨x1, x2, x3⟩, hx', hx1⟩ := Option.map_eq_some_iff.1 hx
  simp only [Prod.mk.injEq] at hx1
  obtain ⟨rfl, rfl⟩ := hx1
  exact OpenSpec.preRow_of_cond 8 hx' (by kernel_rfl) (fun k hk => by cases hk) hz hl
end Go.Proofs.YbulkmvuFmt
