/-
  'Rows.LawS0669CSendsEachSaid' ('example.com/knotwarden/knotwarden.LawS0669CSendsEach'): the frame after the shells that were given for its sisters; the walk: YbulkmvgEach.
-/
import Derived.Test.YbulkmvgRows
import Derived.Test.YbulkmvgEach
import Derived.WalkKit
import Derived.ProofKit
import Derived.OpenShut
import Derived.ShutString
import Derived.ChangeOld
import Derived.Below
import Derived.Deep.Slices
namespace Go.Proofs.Ybulkmvg.lawS0669CSendsEach
open Go.ChangeShapes Go.WideShapes Go.ChangeAt Go.RowKit Go.Deep
open Go.ChangeMaps (open_string shut_string)
open Go.Proofs.Ybulkmvg.All (Pr)
set_option linter.unusedVariables false

theorem own : ownKnob Yba.prog.godebug = none := by kernel_rfl
theorem laidOut : laidOutB Yba.prog = true := by kernel_rfl
theorem cells72 : Yba.prog.cellsOf 72 = 6 := by kernel_rfl
theorem cells9 : Yba.prog.cellsOf 9 = 1 := by kernel_rfl
theorem cells3 : Yba.prog.cellsOf 3 = 1 := by kernel_rfl
theorem cells2 : Yba.prog.cellsOf 2 = 1 := by kernel_rfl

theorem list6 {α : Type} : ∀ (l : List α), l.length = 6 → ∃ a b c d e f, l = [a, b, c, d, e, f]
  | [a, b, c, d, e, f], _ => ⟨a, b, c, d, e, f, rfl⟩
  | [], h => by simp at h
  | [_], h => by simp at h
  | [_, _], h => by simp at h
  | [_, _, _], h => by simp at h
  | [_, _, _, _], h => by simp at h
  | [_, _, _, _, _], h => by simp at h
  | _ :: _ :: _ :: _ :: _ :: _ :: _ :: _, h => by simp at h

/-- One probe's plain data, opened. -/
theorem open_probe {H : Type} {enc : TypeId × Value → H} {w : World} {base : Nat} {spare : Nat → Bool} {held : Bool} {n : Nat} {cs : List Value} {x : DataW H × List MemPlace} (h : DataW.trod enc Yba.prog w base spare held n 72 cs = some x) :
    ∃ q : Pr, cs = Each.inCells q := by
  obtain ⟨xs, m, _, rfl, hl, hlen, hf⟩ := DataW.trod_struct Yba.underlying72 h
  rw [cells72] at hl
  obtain ⟨c0, c1, c2, c3, c4, c5, rfl⟩ := list6 cs hl
  have hx : ∀ i, i < 6 → ∃ y, xs[i]? = some y := fun i hi => ⟨_, List.getElem?_eq_getElem (by rw [hlen]; exact hi)⟩
  obtain ⟨y0, e0⟩ := hx 0 (by omega)
  obtain ⟨y1, e1⟩ := hx 1 (by omega)
  obtain ⟨y2, e2⟩ := hx 2 (by omega)
  obtain ⟨y3, e3⟩ := hx 3 (by omega)
  obtain ⟨y4, e4⟩ := hx 4 (by omega)
  obtain ⟨y5, e5⟩ := hx 5 (by omega)
  have f0 : DataW.trod enc Yba.prog w base spare held m 9 (([c0, c1, c2, c3, c4, c5].drop 0).take (Yba.prog.cellsOf 9)) = some y0 := (hf 0 _ rfl).trans e0
  rw [cells9] at f0
  have f1 : DataW.trod enc Yba.prog w base spare held m 3 (([c0, c1, c2, c3, c4, c5].drop 1).take (Yba.prog.cellsOf 3)) = some y1 := (hf 1 _ rfl).trans e1
  rw [cells3] at f1
  have f2 : DataW.trod enc Yba.prog w base spare held m 9 (([c0, c1, c2, c3, c4, c5].drop 2).take (Yba.prog.cellsOf 9)) = some y2 := (hf 2 _ rfl).trans e2
  rw [cells9] at f2
  have f3 : DataW.trod enc Yba.prog w base spare held m 2 (([c0, c1, c2, c3, c4, c5].drop 3).take (Yba.prog.cellsOf 2)) = some y3 := (hf 3 _ rfl).trans e3
  rw [cells2] at f3
  have f4 : DataW.trod enc Yba.prog w base spare held m 9 (([c0, c1, c2, c3, c4, c5].drop 4).take (Yba.prog.cellsOf 9)) = some y4 := (hf 4 _ rfl).trans e4
  rw [cells9] at f4
  have f5 : DataW.trod enc Yba.prog w base spare held m 3 (([c0, c1, c2, c3, c4, c5].drop 5).take (Yba.prog.cellsOf 3)) = some y5 := (hf 5 _ rfl).trans e5
  rw [cells3] at f5
  obtain ⟨s0, g0, _, _⟩ := DataW.trod_string Yba.underlying9 f0
  obtain ⟨s1, g1, _, _⟩ := DataW.trod_int Yba.underlying3 f1
  obtain ⟨s2, g2, _, _⟩ := DataW.trod_string Yba.underlying9 f2
  obtain ⟨s3, g3, _, _⟩ := DataW.trod_int Yba.underlying2 f3
  obtain ⟨s4, g4, _, _⟩ := DataW.trod_string Yba.underlying9 f4
  obtain ⟨s5, g5, _, _⟩ := DataW.trod_int Yba.underlying3 f5
  simp at g0 g1 g2 g3 g4 g5
  subst g0 g1 g2 g3 g4 g5
  exact ⟨⟨s0, s1, s2, s3, s4, s5⟩, rfl⟩

/-- The slice of them. -/
theorem open_probes {H : Type} {enc : TypeId × Value → H} {w : World} {base : Nat} {spare : Nat → Bool} {held : Bool} {n : Nat} {a : Option Addr} {len cap : Nat} {x : DataW H × List MemPlace} (h : DataW.trod enc Yba.prog w base spare held n 33 [.slice a len cap] = some x) :
    ∃ qs : List Pr, qs.length = len ∧ Each.InAt w a qs := by
  rcases open_slice Yba.underlying33 h with ⟨h0, _⟩ | ⟨ad, l, c, m, k, D, Pl, h0, _, hl, _, hm, _, hx⟩
  · simp at h0
    exact ⟨[], by simp [h0], fun i q hq => by simp at hq⟩
  · simp at h0
    obtain ⟨rfl, rfl, rfl⟩ := h0
    have hlm : len ≤ m := by rw [hm]; split <;> omega
    haveI : Inhabited Pr := ⟨⟨ByteArray.empty, 0, ByteArray.empty, 0, ByteArray.empty, 0⟩⟩
    obtain ⟨f, hf⟩ := choose_lt (α := Pr) (n := len) (p := fun i q => ∀ r v, (Each.inCells q)[r]? = some v → w.cell? (ad.add (i * 6 + r)) = some v) (fun i hi => by
      obtain ⟨cs, h1, h2⟩ := hx i (by omega)
      obtain ⟨q, rfl⟩ := open_probe h2
      rw [cells72] at h1
      refine ⟨q, fun r v hv => ?_⟩
      have hr : r < 6 := (List.getElem?_eq_some_iff.1 hv).1
      rw [← add_add, (World.cells?_some h1).2.2 r hr]
      exact hv)
    refine ⟨(List.range len).map f, by simp, fun i q hq => ?_⟩
    have hi : i < len := by have := (List.getElem?_eq_some_iff.1 hq).1; simpa using this
    have hqf : q = f i := by simpa [hi] using hq.symm
    subst hqf
    have h0 := hf 0 (by omega) 0 _ rfl
    obtain ⟨b, off, spot⟩ := ad
    have hspot : spot = none := by simpa [Addr.add] using World.cell?_spot h0
    subst hspot
    refine ⟨b, off, rfl, fun r v hv => ?_⟩
    have := hf i hi r v hv
    rw [Addr.add_lit] at this
    rw [Nat.add_assoc]
    exact this

theorem walk (a0 : ByteArray) (a1 : Option Addr) (len cap : Nat) (w : World) (h : ∃ qs : List Pr, qs.length = len ∧ Each.InAt w a1 qs) :
    Calls Yba.prog 5 #[.string a0, .slice a1 len cap] w fun e w' => e = .returned (.bool true) ∧ Below w.heap.size w w' := by
  by_cases hbig : 1024 < len
  · exact Each.walk_big a0 a1 len cap w hbig
  · obtain ⟨qs, rfl, hin⟩ := h
    exact Each.walk a0 a1 cap qs w (by omega) hin

/-! ### THE ROW's STEP: WRITTEN OUT: LEAVE IT -/
set_option maxRecDepth 100000 in
theorem lifted (os : Os) (started : os.Started) (H : Type) (enc : TypeId × Value → H) :
    ReturnsInHanded {} Yba.checked os 5 .any (Rows.lawS0669CSendsEachSpec.pre6 enc Yba.prog Yba.f5 Rows.lawS0669CSendsEachRow.domain false) (Rows.lawS0669CSendsEachSpec.post enc Yba.prog Yba.f5 false true false false) := by
  refine returnsInHanded_of_change (C := Yba.checked) own started (by kernel_rfl) Yba.func5
    (ChangeSpec.witness6 (enc := enc) (C := Yba.checked) false ⟨#[], #[.string ByteArray.empty, .slice none 0 0], []⟩ 8 (by kernel_rfl) (by kernel_rfl) (by kernel_rfl) (by kernel_rfl)) ?_
  intro W base args ds gs before hval0 hW hcnd _
  have hval : ∀ (j : Nat) t v, Yba.f5.params[j]? = some t → args[j]? = some v → Value.okWide Yba.prog W .any base t v := hval0
  have hW' := hW
  obtain ⟨p, q, hA0, hV, rfl, hfz, hnd⟩ := hW
  have hA : DataW.TrodAll enc Yba.prog W 0 (fun _ => true) true Yba.f5.params.toList args.toList ds p := hA0
  rw [Yba.params5] at hA hval
  obtain ⟨v0, vs0, d0, ds0, p0, q0, hargs, rfl, rfl, h0, r0⟩ := trodAll_cons hA
  obtain ⟨v1, vs1, d1, ds1, p1, q1, rfl, rfl, rfl, h1, r1⟩ := trodAll_cons r0
  obtain ⟨rfl, rfl, rfl⟩ := trodAll_nil r1
  obtain rfl : args = #[v0, v1] := by cases args; simp_all
  obtain ⟨rfl, rfl⟩ := trodVars_none hV
  obtain ⟨a0, rfl, rfl, rfl, w0⟩ := open_string Yba.underlying9 (hval 0 9 v0 rfl rfl) h0
  obtain ⟨a1, len1, cap1, rfl⟩ := okWide_slice Yba.underlying33 (hval 1 33 v1 rfl rfl)
  have k1 := h1
  have lt1 : ∀ x ∈ p1, x.block < W.heap.size := by obtain ⟨m, hm⟩ := k1; exact DataW.trod_lt m _ _ _ hm
  have w1 : ∃ qs : List Pr, qs.length = len1 ∧ Each.InAt W a1 qs := by
    obtain ⟨fuel, hf⟩ := h1
    exact open_probes hf
  clear hA0 hval0
  refine (walk a0 a1 len1 cap1 W w1).mono fun e W' ⟨he, bel⟩ => ?_
  subst he
  exact ⟨_, rfl, _, _, _, [], _, [], hW', trodAll_mk1 (shut_bool Yba.underlying4 _), (trodAll_cons_mk (shut_string Yba.underlying9 w0) (trodAll_cons_mk (Below.trod laidOut (by kernel_rfl) (of_decide_eq_true (by kernel_rfl)) k1 bel lt1) trodAll_mk0)), rfl, bel.frame _, fun h => by cases h⟩

theorem over : Rows.lawS0669CSendsEachRow.holds Yba.pinned (OpenSpec.ofChange Rows.lawS0669CSendsEachSpec) :=
  OpenClaim.holds_of_wide 5 Yba.f5 rfl rfl rfl rfl rfl rfl rfl ⟨rfl, rfl, rfl, rfl, rfl⟩ rfl rfl rfl rfl rfl (by kernel_rfl) Yba.func5 (by kernel_rfl)
    (of_decide_eq_true (by kernel_rfl)) (by unfold Func.isWrapper; first | (rw [if_pos (by decide +kernel)]; kernel_rfl) | (rw [if_neg (by decide +kernel)]; exact ⟨rfl, rfl⟩))
    (fun os started H enc _ => lifted os started H enc)

/-- ████ THE STATEMENT ████ -/
theorem proved : Rows.LawS0669CSendsEachSaid := over
#print axioms proved
end Go.Proofs.Ybulkmvg.lawS0669CSendsEach
