/-
  A start that fits the script's row; the tables that its list lays.
-/
import Derived.Test.YbulkmvuFmtLaid
import Derived.Test.YbulkmvuFmtBits
import Derived.Lib.LaidTab
namespace Go.Proofs.YbulkmvuFmt

set_option maxRecDepth 1000000 in
/-- There is a start that fits the script's row. -/
theorem script_start (os : Os) {H : Type} (enc : TypeId × Value → H) : ∃ w0 : World, w0.os = os ∧ (w0.forCall (fun _ _ => 0) ⟨#[], #[.slice none 0 0], []⟩).variablesRefB Ybaf.prog = true ∧
    ((w0.forCall (fun _ _ => 0) ⟨#[], #[.slice none 0 0], []⟩).heap.toList.drop Ybaf.prog.globals.size).take ((begin Ybaf.prog (fun _ _ => 0) default).world.heap.size - Ybaf.prog.globals.size) =
      (begin Ybaf.prog (fun _ _ => 0) default).world.heap.toList.drop Ybaf.prog.globals.size ∧
    Input.okWideB Ybaf.prog (w0.forCall (fun _ _ => 0) ⟨#[], #[.slice none 0 0], []⟩) 4 ⟨#[], #[.slice none 0 0], []⟩ = true ∧
    (OpenSpec.ofChange Rows.lawS0670AScriptSpec).preRow enc Ybaf.prog Ybaf.f4 Rows.lawS0670AScriptRow.domain false Rows.lawS0670AScriptRow.laid (w0.forCall (fun _ _ => 0) ⟨#[], #[.slice none 0 0], []⟩).memory #[.slice none 0 0] := by
  refine ⟨{ World.holding Ybaf.prog os ⟨#[.cells #[.string ⟨#[118, 97, 108, 117, 101, 32, 111, 117, 116, 32, 111, 102, 32, 114, 97, 110, 103, 101]⟩] 77, .cells #[.string ⟨#[105, 110, 118, 97, 108, 105, 100, 32, 115, 121, 110, 116, 97, 120]⟩] 77], #[], []⟩ with heap := laidHeap (World.holding Ybaf.prog os ⟨#[.cells #[.string ⟨#[118, 97, 108, 117, 101, 32, 111, 117, 116, 32, 111, 102, 32, 114, 97, 110, 103, 101]⟩] 77, .cells #[.string ⟨#[105, 110, 118, 97, 108, 105, 100, 32, 115, 121, 110, 116, 97, 120]⟩] 77], #[], []⟩).heap (World.settled Ybaf.prog os).heap.size }, rfl, by kernel_rfl, by kernel_rfl, by kernel_rfl, ?_⟩
  generalize hw : ({ World.holding Ybaf.prog os ⟨#[.cells #[.string ⟨#[118, 97, 108, 117, 101, 32, 111, 117, 116, 32, 111, 102, 32, 114, 97, 110, 103, 101]⟩] 77, .cells #[.string ⟨#[105, 110, 118, 97, 108, 105, 100, 32, 115, 121, 110, 116, 97, 120]⟩] 77], #[], []⟩ with heap := laidHeap (World.holding Ybaf.prog os ⟨#[.cells #[.string ⟨#[118, 97, 108, 117, 101, 32, 111, 117, 116, 32, 111, 102, 32, 114, 97, 110, 103, 101]⟩] 77, .cells #[.string ⟨#[105, 110, 118, 97, 108, 105, 100, 32, 115, 121, 110, 116, 97, 120]⟩] 77], #[], []⟩).heap (World.settled Ybaf.prog os).heap.size } : World) = w0
  have hl : laidMet Ybaf.prog Rows.lawS0670AScriptRow.laid (w0.forCall (fun _ _ => 0) ⟨#[], #[.slice none 0 0], []⟩).memory := by
    rw [← hw]
    exact (LaidIn.of_run [3, 4, 0, 2, (World.settled Ybaf.prog default).heap.size, 1, (World.settled Ybaf.prog default).heap.size + 1] 10 (by kernel_rfl) (by kernel_rfl) (by kernel_rfl) (by kernel_rfl)).met
  have hx : (DataW.whole enc Ybaf.prog (w0.forCall (fun _ _ => 0) ⟨#[], #[.slice none 0 0], []⟩).memory Ybaf.f4.params.toList (OpenSpec.ofChange Rows.lawS0670AScriptSpec).vars false #[Value.slice none 0 0].toList 8).map (fun x => (x.1, x.2.1)) =
      some ([.nil], []) := by
    rw [← hw]
    kernel_rfl
  have hz : (OpenSpec.ofChange Rows.lawS0670AScriptSpec).bare.sizedB enc Ybaf.prog Ybaf.f4 false (w0.forCall (fun _ _ => 0) ⟨#[], #[.slice none 0 0], []⟩).memory #[.slice none 0 0] 8 = true := by
    rw [← hw]
    kernel_rfl
  obtain ⟨⟨x1, x2, x3⟩, hx', hx1⟩ := Option.map_eq_some_iff.1 hx
  simp only [Prod.mk.injEq] at hx1
  obtain ⟨rfl, rfl⟩ := hx1
  exact OpenSpec.preRow_of_cond 8 hx' (by kernel_rfl) (fun k hk => by cases hk) hz hl


/-- The table of de Bruijn numbers. -/
def bruTab : List Int := [0, 1, 56, 2, 57, 49, 28, 3, 61, 58, 42, 50, 38, 29, 17, 4, 62, 47, 59, 36, 45, 43, 51, 22, 53, 39, 33, 30, 24, 18, 12, 5, 63, 55, 48, 27, 60, 41, 37, 16, 46, 35, 44, 21, 52, 32, 23, 11, 54, 26, 40, 15, 34, 20, 31, 10, 25, 14, 19, 9, 13, 8, 7, 6]
theorem type4 : (Ybaf.prog.globals[4]?).map (·.type) = some 113 := by kernel_rfl
theorem type0 : (Ybaf.prog.globals[0]?).map (·.type) = some 96 := by kernel_rfl
theorem name4 : Ybaf.prog.globalNamed "math/bits.deBruijn64tab" = some 4 := by kernel_rfl
theorem name0 : Ybaf.prog.globalNamed "internal/strconv.uint64pow10" = some 0 := by kernel_rfl
theorem tab4 : (Rows.laid_math_bits_deBruijn64tab : DataW Unit) = Lib.tabData .u8 bruTab := by kernel_rfl
theorem tab0 : (Rows.laid_internal_strconv_uint64pow10 : DataW Unit) = Lib.tabData .u64 Lib.pow10Tab := by kernel_rfl

/-- The two tables that the walk reads, out of the row's list. -/
theorem tabs {W : World} (h : laidMet Ybaf.prog Rows.lawS0670AScriptRow.laid W) : Pow W ∧ Bru W := by
  obtain ⟨ps, h, _⟩ := h
  obtain ⟨g1, t1, cs1, f1, p1, q1, -, -, -, -, h, -⟩ := h
  obtain ⟨g2, t2, cs2, f2, p2, q2, hg2, ht2, hv2, hd2, h, -⟩ := h
  obtain ⟨g3, t3, cs3, f3, p3, q3, hg3, ht3, hv3, hd3, h, -⟩ := h
  obtain rfl := Option.some.inj (name4.symm.trans hg2)
  obtain rfl := Option.some.inj (type4.symm.trans ht2)
  obtain rfl := Option.some.inj (name0.symm.trans hg3)
  obtain rfl := Option.some.inj (type0.symm.trans ht3)
  rw [tab4] at hd2
  rw [tab0] at hd3
  have e2 := Lib.cells_of_tab (n := 64) (e := 5) (by kernel_rfl) (by kernel_rfl) (by kernel_rfl) (by kernel_rfl) hd2
  have e3 := Lib.cells_of_tab (n := 20) (e := 36) (by kernel_rfl) (by kernel_rfl) (by kernel_rfl) (by kernel_rfl) hd3
  constructor
  · show W.var? Ybaf.prog "internal/strconv.uint64pow10" = _
    rw [hv3, ← e3]
  · have hb : Lib.TabIs Ybaf.prog W "math/bits.deBruijn64tab" .u8 bruTab := by
      show W.var? Ybaf.prog "math/bits.deBruijn64tab" = _
      rw [hv2, ← e2]
    exact hb.cell name4 15 (by decide)
end Go.Proofs.YbulkmvuFmt
