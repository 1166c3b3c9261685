/-
  'Rows.LawS0670BScriptSaid' ('example.com/pagewright/pagewright.LawS0670BScript'): the frame after the shells that were given for its sisters; the walk: YbulkmvuScript.
-/
import Derived.Test.YbulkmvuRows
import Derived.Test.YbulkmvuScript
import Derived.WalkKit
import Derived.ProofKit
import Derived.OpenShut
import Derived.ShutString
import Derived.ChangeOld
import Derived.Below
import Derived.Deep.Slices
namespace Go.Proofs.Ybulkmvu.lawS0670BScript
open Go.ChangeShapes Go.WideShapes Go.ChangeAt Go.RowKit Go.Deep
open Go.ChangeMaps (open_string shut_string)
open Go.Proofs.Ybulkmvu.Script (Op4 opCells InAt)
set_option linter.unusedVariables false

theorem own : ownKnob Yba.prog.godebug = none := by kernel_rfl
theorem laidOut : laidOutB Yba.prog = true := by kernel_rfl
theorem cells30 : Yba.prog.cellsOf 30 = 4 := by kernel_rfl
theorem cells5 : Yba.prog.cellsOf 5 = 1 := by kernel_rfl
theorem cells2 : Yba.prog.cellsOf 2 = 1 := by kernel_rfl
theorem cells3 : Yba.prog.cellsOf 3 = 1 := by kernel_rfl

theorem list4 {α : Type} : ∀ (l : List α), l.length = 4 → ∃ a b c d, l = [a, b, c, d]
  | [a, b, c, d], _ => ⟨a, b, c, d, rfl⟩
  | [], h => by simp at h
  | [_], h => by simp at h
  | [_, _], h => by simp at h
  | [_, _, _], h => by simp at h
  | _ :: _ :: _ :: _ :: _ :: _, h => by simp at h

/-- One step's plain data, opened. -/
theorem open_op {H : Type} {enc : TypeId × Value → H} {w : World} {base : Nat} {spare : Nat → Bool} {held : Bool} {n : Nat} {cs : List Value} {x : DataW H × List MemPlace} (h : DataW.trod enc Yba.prog w base spare held n 30 cs = some x) :
    ∃ o : Op4, cs = opCells o ∧ 0 ≤ o.op ∧ o.op ≤ 255 := by
  obtain ⟨xs, m, _, rfl, hl, hlen, hf⟩ := DataW.trod_struct Yba.underlying30 h
  rw [cells30] at hl
  obtain ⟨c0, c1, c2, c3, rfl⟩ := list4 cs hl
  have hx : ∀ i, i < 4 → ∃ y, xs[i]? = some y := fun i hi => ⟨_, List.getElem?_eq_getElem (by rw [hlen]; exact hi)⟩
  obtain ⟨y0, e0⟩ := hx 0 (by omega)
  obtain ⟨y1, e1⟩ := hx 1 (by omega)
  obtain ⟨y2, e2⟩ := hx 2 (by omega)
  obtain ⟨y3, e3⟩ := hx 3 (by omega)
  have f0 : DataW.trod enc Yba.prog w base spare held m 5 (([c0, c1, c2, c3].drop 0).take (Yba.prog.cellsOf 5)) = some y0 := (hf 0 _ rfl).trans e0
  rw [cells5] at f0
  have f1 : DataW.trod enc Yba.prog w base spare held m 2 (([c0, c1, c2, c3].drop 1).take (Yba.prog.cellsOf 2)) = some y1 := (hf 1 _ rfl).trans e1
  rw [cells2] at f1
  have f2 : DataW.trod enc Yba.prog w base spare held m 5 (([c0, c1, c2, c3].drop 2).take (Yba.prog.cellsOf 5)) = some y2 := (hf 2 _ rfl).trans e2
  rw [cells5] at f2
  have f3 : DataW.trod enc Yba.prog w base spare held m 3 (([c0, c1, c2, c3].drop 3).take (Yba.prog.cellsOf 3)) = some y3 := (hf 3 _ rfl).trans e3
  rw [cells3] at f3
  obtain ⟨s0, g0, _, b0⟩ := DataW.trod_int Yba.underlying5 f0
  obtain ⟨s1, g1, _, _⟩ := DataW.trod_int Yba.underlying2 f1
  obtain ⟨s2, g2, _, _⟩ := DataW.trod_int Yba.underlying5 f2
  obtain ⟨s3, g3, _, _⟩ := DataW.trod_int Yba.underlying3 f3
  simp at g0 g1 g2 g3
  subst g0 g1 g2 g3
  exact ⟨⟨s0, s1, s2, s3⟩, rfl, bounds_u8 b0⟩

/-- The slice of them. -/
theorem open_ops {H : Type} {enc : TypeId × Value → H} {w : World} {base : Nat} {spare : Nat → Bool} {held : Bool} {n : Nat} {a : Option Addr} {len cap : Nat} {x : DataW H × List MemPlace} (h : DataW.trod enc Yba.prog w base spare held n 22 [.slice a len cap] = some x) :
    ∃ os : List Op4, os.length = len ∧ InAt w a os := by
  rcases open_slice Yba.underlying22 h with ⟨h0, _⟩ | ⟨ad, l, c, m, k, D, Pl, h0, _, hl, _, hm, _, hx⟩
  · simp at h0
    exact ⟨[], by simp [h0], fun i q hq => by simp at hq⟩
  · simp at h0
    obtain ⟨rfl, rfl, rfl⟩ := h0
    have hlm : len ≤ m := by rw [hm]; split <;> omega
    haveI : Inhabited Op4 := ⟨⟨0, 0, 0, 0⟩⟩
    obtain ⟨f, hf⟩ := choose_lt (α := Op4) (n := len) (p := fun i q => (0 ≤ q.op ∧ q.op ≤ 255) ∧ ∀ r v, (opCells q)[r]? = some v → w.cell? (ad.add (i * 4 + r)) = some v) (fun i hi => by
      obtain ⟨cs, h1, h2⟩ := hx i (by omega)
      obtain ⟨q, rfl, hb⟩ := open_op h2
      rw [cells30] at h1
      refine ⟨q, hb, fun r v hv => ?_⟩
      have hr : r < 4 := (List.getElem?_eq_some_iff.1 hv).1
      rw [← add_add, (World.cells?_some h1).2.2 r hr]
      exact hv)
    refine ⟨(List.range len).map f, by simp, fun i q hq => ?_⟩
    have hi : i < len := by have := (List.getElem?_eq_some_iff.1 hq).1; simpa using this
    have hqf : q = f i := by simpa [hi] using hq.symm
    subst hqf
    have h0 := (hf 0 (by omega)).2 0 _ rfl
    obtain ⟨b, off, spot⟩ := ad
    have hspot : spot = none := by simpa [Addr.add] using World.cell?_spot h0
    subst hspot
    refine ⟨(hf i hi).1, b, off, rfl, fun r v hv => ?_⟩
    have := (hf i hi).2 r v hv
    rw [Addr.add_lit] at this
    rw [Nat.add_assoc]
    exact this

theorem walk (a0 : Option Addr) (len cap : Nat) (w : World) (h : ∃ os : List Op4, os.length = len ∧ InAt w a0 os) :
    Calls Yba.prog 3 #[.slice a0 len cap] w fun e w' => e = .returned (.bool true) ∧ Below w.heap.size w w' := by
  by_cases hbig : 1024 < len
  · exact Script.walk_big a0 len cap w hbig
  · obtain ⟨qs, rfl, hin⟩ := h
    exact Script.walk a0 cap qs w (by omega) hin

/-! ### THE ROW's STEP: WRITTEN OUT: LEAVE IT -/
set_option maxRecDepth 100000 in
theorem lifted (os : Os) (started : os.Started) (H : Type) (enc : TypeId × Value → H) :
    ReturnsInHanded {} Yba.checked os 3 .any (Rows.lawS0670BScriptSpec.pre6 enc Yba.prog Yba.f3 Rows.lawS0670BScriptRow.domain false) (Rows.lawS0670BScriptSpec.post enc Yba.prog Yba.f3 false true false false) := by
  refine returnsInHanded_of_change (C := Yba.checked) own started (by kernel_rfl) Yba.func3
    (ChangeSpec.witness6 (enc := enc) (C := Yba.checked) false ⟨#[], #[.slice none 0 0], []⟩ 8 (by kernel_rfl) (by kernel_rfl) (by kernel_rfl) (by kernel_rfl)) ?_
  intro W base args ds gs before hval0 hW hcnd _
  have hval : ∀ (j : Nat) t v, Yba.f3.params[j]? = some t → args[j]? = some v → Value.okWide Yba.prog W .any base t v := hval0
  have hW' := hW
  obtain ⟨p, q, hA0, hV, rfl, hfz, hnd⟩ := hW
  have hA : DataW.TrodAll enc Yba.prog W 0 (fun _ => true) true Yba.f3.params.toList args.toList ds p := hA0
  rw [Yba.params3] at hA hval
  obtain ⟨v0, vs0, d0, ds0, p0, q0, hargs, rfl, rfl, h0, r0⟩ := trodAll_cons hA
  obtain ⟨rfl, rfl, rfl⟩ := trodAll_nil r0
  obtain rfl : args = #[v0] := by cases args; simp_all
  obtain ⟨rfl, rfl⟩ := trodVars_none hV
  obtain ⟨a0, len0, cap0, rfl⟩ := okWide_slice Yba.underlying22 (hval 0 22 v0 rfl rfl)
  have k0 := h0
  have lt0 : ∀ x ∈ p0, x.block < W.heap.size := by obtain ⟨m, hm⟩ := k0; exact DataW.trod_lt m _ _ _ hm
  have w0 : ∃ os : List Op4, os.length = len0 ∧ InAt W a0 os := by
    obtain ⟨fuel, hf⟩ := h0
    exact open_ops hf
  clear hA0 hval0
  refine (walk a0 len0 cap0 W w0).mono fun e W' ⟨he, bel⟩ => ?_
  subst he
  exact ⟨_, rfl, _, _, _, [], _, [], hW', trodAll_mk1 (shut_bool Yba.underlying4 _), (trodAll_cons_mk (Below.trod laidOut (by kernel_rfl) (of_decide_eq_true (by kernel_rfl)) k0 bel lt0) trodAll_mk0), rfl, bel.frame _, fun h => by cases h⟩

theorem over : Rows.lawS0670BScriptRow.holds Yba.pinned (OpenSpec.ofChange Rows.lawS0670BScriptSpec) :=
  OpenClaim.holds_of_wide 3 Yba.f3 rfl rfl rfl rfl rfl rfl rfl ⟨rfl, rfl, rfl, rfl, rfl⟩ rfl rfl rfl rfl rfl (by kernel_rfl) Yba.func3 (by kernel_rfl)
    (of_decide_eq_true (by kernel_rfl)) (by unfold Func.isWrapper; first | (rw [if_pos (by decide +kernel)]; kernel_rfl) | (rw [if_neg (by decide +kernel)]; exact ⟨rfl, rfl⟩))
    (fun os started H enc _ => lifted os started H enc)

/-- ████ THE STATEMENT ████ -/
theorem proved : Rows.LawS0670BScriptSaid := over
#print axioms proved
end Go.Proofs.Ybulkmvu.lawS0670BScript
