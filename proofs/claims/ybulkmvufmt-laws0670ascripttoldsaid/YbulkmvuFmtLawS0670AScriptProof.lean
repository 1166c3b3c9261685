/-
  'Rows.LawS0670AScriptToldSaid' ('example.com/pagewright/pagewright.LawS0670AScript'): told and tied. The walk: YbulkmvuFmtScript; the start that fits and the tables: YbulkmvuFmtLaidS; the tie: the given YbulkmvuFmtTie.
-/
import Derived.Test.YbulkmvuFmtCards
import Derived.Test.YbulkmvuFmtTie
import Derived.Test.YbulkmvuFmtScript
import Derived.Test.YbulkmvuFmtLaidS
import Derived.ProofKit
import Derived.OpenShut
import Derived.ShutString
import Derived.ChangeOld
import Derived.Below
import Derived.Deep.Slices
import Derived.Stop.JoinedAt
import Derived.Stop.JoinedTold
import Derived.SevenTiedAt
namespace Go.Proofs.YbulkmvuFmt.lawS0670AScript
open Go.ChangeShapes Go.WideShapes Go.ChangeAt Go.RowKit Go.Deep
open Go.ChangeMaps (open_string shut_string)
open Go.Extern.Stop Go.Stop Go.Extern
set_option linter.unusedVariables false

theorem own : ownKnob Ybaf.prog.godebug = none := by kernel_rfl
theorem laidOut : laidOutB Ybaf.prog = true := by kernel_rfl
theorem cells38 : Ybaf.prog.cellsOf 38 = 3 := by kernel_rfl
theorem cells5 : Ybaf.prog.cellsOf 5 = 1 := by kernel_rfl
theorem cells36 : Ybaf.prog.cellsOf 36 = 1 := by kernel_rfl

theorem list3 {α : Type} : ∀ (l : List α), l.length = 3 → ∃ a b c, l = [a, b, c]
  | [a, b, c], _ => ⟨a, b, c, rfl⟩
  | [], h => by simp at h
  | [_], h => by simp at h
  | [_, _], h => by simp at h
  | _ :: _ :: _ :: _ :: _, h => by simp at h

def stCells (o : St3) : List Value := [.int .u8 o.op, .int .u8 o.n, .int .u64 o.a]

/-- One step's plain data, opened. -/
theorem open_step {H : Type} {enc : TypeId × Value → H} {w : World} {base : Nat} {spare : Nat → Bool} {held : Bool} {n : Nat} {cs : List Value} {x : DataW H × List MemPlace} (h : DataW.trod enc Ybaf.prog w base spare held n 38 cs = some x) :
    ∃ o : St3, cs = stCells o ∧ okSt o := by
  obtain ⟨xs, m, _, rfl, hl, hlen, hf⟩ := DataW.trod_struct Ybaf.underlying38 h
  rw [cells38] at hl
  obtain ⟨c0, c1, c2, rfl⟩ := list3 cs hl
  have hx : ∀ i, i < 3 → ∃ y, xs[i]? = some y := fun i hi => ⟨_, List.getElem?_eq_getElem (by rw [hlen]; exact hi)⟩
  obtain ⟨y0, e0⟩ := hx 0 (by omega)
  obtain ⟨y1, e1⟩ := hx 1 (by omega)
  obtain ⟨y2, e2⟩ := hx 2 (by omega)
  have f0 : DataW.trod enc Ybaf.prog w base spare held m 5 (([c0, c1, c2].drop 0).take (Ybaf.prog.cellsOf 5)) = some y0 := (hf 0 _ rfl).trans e0
  rw [cells5] at f0
  have f1 : DataW.trod enc Ybaf.prog w base spare held m 5 (([c0, c1, c2].drop 1).take (Ybaf.prog.cellsOf 5)) = some y1 := (hf 1 _ rfl).trans e1
  rw [cells5] at f1
  have f2 : DataW.trod enc Ybaf.prog w base spare held m 36 (([c0, c1, c2].drop 2).take (Ybaf.prog.cellsOf 36)) = some y2 := (hf 2 _ rfl).trans e2
  rw [cells36] at f2
  obtain ⟨s0, g0, _, b0⟩ := DataW.trod_int Ybaf.underlying5 f0
  obtain ⟨s1, g1, _, b1⟩ := DataW.trod_int Ybaf.underlying5 f1
  obtain ⟨s2, g2, _, b2⟩ := DataW.trod_int Ybaf.underlying36 f2
  simp at g0 g1 g2
  subst g0 g1 g2
  have k0 := bounds_u8 b0
  have k1 := bounds_u8 b1
  have k2 := bounds_u64 b2
  refine ⟨⟨s0.toNat, s1.toNat, s2.toNat⟩, ?_, by simp; omega, by simp; omega, by simp; omega⟩
  simp only [stCells, Int.toNat_of_nonneg k0.1, Int.toNat_of_nonneg k1.1, Int.toNat_of_nonneg k2.1]

/-- The slice of them. -/
theorem open_steps {H : Type} {enc : TypeId × Value → H} {w : World} {base : Nat} {spare : Nat → Bool} {held : Bool} {n : Nat} {a : Option Addr} {len cap : Nat} {x : DataW H × List MemPlace} (h : DataW.trod enc Ybaf.prog w base spare held n 34 [.slice a len cap] = some x) :
    ∃ f : Nat → St3, StepsAt w a len f := by
  rcases open_slice Ybaf.underlying34 h with ⟨h0, _⟩ | ⟨ad, l, c, m, k, D, Pl, h0, _, hl, _, hm, _, hx⟩
  · simp at h0
    obtain ⟨rfl, rfl, rfl⟩ := h0
    exact ⟨fun _ => ⟨0, 0, 0⟩, 0, 0, fun h => absurd h (by omega), fun i hi => absurd hi (by omega)⟩
  · simp at h0
    obtain ⟨rfl, rfl, rfl⟩ := h0
    have hlm : len ≤ m := by rw [hm]; split <;> omega
    haveI : Inhabited St3 := ⟨⟨0, 0, 0⟩⟩
    obtain ⟨f, hf⟩ := choose_lt (α := St3) (n := len) (p := fun i q => okSt q ∧ ∀ r v, (stCells q)[r]? = some v → w.cell? (ad.add (i * 3 + r)) = some v) (fun i hi => by
      obtain ⟨cs, h1, h2⟩ := hx i (by omega)
      obtain ⟨q, rfl, hb⟩ := open_step h2
      rw [cells38] at h1
      refine ⟨q, hb, fun r v hv => ?_⟩
      have hr : r < 3 := (List.getElem?_eq_some_iff.1 hv).1
      rw [← add_add, (World.cells?_some h1).2.2 r hr]
      exact hv)
    obtain ⟨b, off, spot⟩ := ad
    refine ⟨f, b, off, fun h0 => ?_, fun i hi => ?_⟩
    · have h1 := (hf 0 h0).2 0 _ rfl
      have hspot : spot = none := by simpa [Addr.add] using World.cell?_spot h1
      subst hspot
      rw [Addr.add_lit] at h1
      exact ⟨rfl, World.block_lt_of_cell? _ _ h1⟩
    · have h1 := (hf i hi).2 0 _ rfl
      have h2 := (hf i hi).2 1 _ rfl
      have h3 := (hf i hi).2 2 _ rfl
      have h00 := (hf 0 (by omega)).2 0 _ rfl
      have hspot : spot = none := by simpa [Addr.add] using World.cell?_spot h00
      subst hspot
      rw [Addr.add_lit] at h1 h2 h3
      refine ⟨(hf i hi).1, ?_, ?_, ?_⟩
      · exact h1
      · rw [Nat.add_assoc]; exact h2
      · rw [Nat.add_assoc]; exact h3

theorem walk (F : Interp) (a0 : Option Addr) (len cap : Nat) (w : World) (hF : F.answers w.tape) (hL : laidMet Ybaf.prog Rows.lawS0670AScriptRow.laid w) (h : ∃ f : Nat → St3, StepsAt w a0 len f) :
    Calls Ybaf.prog 4 #[.slice a0 len cap] w fun e w' => e = .returned (.bool true) ∧ Below w.heap.size w w' := by
  by_cases hbig : 512 < len
  · exact script_big a0 len cap w hbig
  · obtain ⟨f, hin⟩ := h
    obtain ⟨hP, hB⟩ := tabs hL
    exact script_any F a0 len cap f w hF hP hB (by omega) hin

set_option maxRecDepth 100000 in
set_option maxHeartbeats 1000000 in
theorem lifted (os : Os) (started : os.Started) (H : Type) (enc : TypeId × Value → H) :
    ReturnsInTold none {} Ybaf.checked os 4 .any Input.okWide ((OpenSpec.ofChange Rows.lawS0670AScriptSpec).preRow enc Ybaf.prog Ybaf.f4 Rows.lawS0670AScriptRow.domain false Rows.lawS0670AScriptRow.laid)
      (fun F => ((OpenSpec.ofChange Rows.lawS0670AScriptSpec).at F).post enc Ybaf.prog Ybaf.f4 false true false false) (aloneAtReturn Ybaf.prog) nothingAlways := by
  obtain ⟨w0, s1, s2, s3, s4, s5⟩ := script_start os enc
  refine returnsInTold_of_row (C := Ybaf.checked) (s := OpenSpec.ofChange Rows.lawS0670AScriptSpec) (by kernel_rfl) own started (by kernel_rfl) Ybaf.func4
    (OpenSpec.witness_stopped_atRef (enc := enc) (C := Ybaf.checked) false w0 #[.slice none 0 0] s1 s2 s3 s4 s5) ?_
  intro F W base args ds gs before _ hF hval0 hW hcnd0 _ _ hL _
  clear s1 s2 s3 s4 s5 hcnd0
  have hval : ∀ (j : Nat) t v, Ybaf.f4.params[j]? = some t → args[j]? = some v → Value.okWide Ybaf.prog W .any base t v := hval0
  have hW' := hW
  obtain ⟨p, q, hA0, hV0, rfl, _, _⟩ := hW
  have hA : DataW.TrodAll enc Ybaf.prog W 0 (fun _ => true) true Ybaf.f4.params.toList args.toList ds p := hA0
  rw [Ybaf.params4] at hA hval
  obtain ⟨v0, vs0, d0, ds0, p0, q0, hargs, rfl, rfl, h0, r0⟩ := trodAll_cons hA
  obtain ⟨rfl, rfl, rfl⟩ := trodAll_nil r0
  obtain rfl : args = #[v0] := by cases args; simp_all
  obtain ⟨rfl, rfl⟩ := trodVars_none hV0
  obtain ⟨a0, len0, cap0, rfl⟩ := okWide_slice Ybaf.underlying34 (hval 0 34 v0 rfl rfl)
  have k0 := h0
  have lt0 : ∀ x ∈ p0, x.block < W.heap.size := by obtain ⟨m, hm⟩ := k0; exact DataW.trod_lt m _ _ _ hm
  have w0' : ∃ f : Nat → St3, StepsAt W a0 len0 f := by
    obtain ⟨fuel, hf⟩ := h0
    exact open_steps hf
  clear hA0 hV0 hval0
  refine (walk F.told a0 len0 cap0 W hF hL w0').mono fun e W' ⟨he, bel⟩ => ?_
  subst he
  exact ⟨_, rfl, _, _, _, [], _, [], hW', trodAll_mk1 (shut_bool Ybaf.underlying4 _), (trodAll_cons_mk (Below.trod laidOut (by kernel_rfl) (of_decide_eq_true (by kernel_rfl)) k0 bel lt0) trodAll_mk0), rfl, bel.frame _, fun h => by cases h⟩

theorem stops : Ybaf.pinned.checked.prog.stops = ["fmt.errorf"] := by kernel_rfl
theorem stopKnobs : Ybaf.pinned.checked.prog.stopKnobs = [] := by kernel_rfl
theorem quiet (os : Os) : Stop.quiet Ybaf.pinned.checked.prog os := by
  intro k hk
  rw [stopKnobs] at hk
  cases hk

theorem over : Claim7.holds Ybaf.pinned (.plain (OpenSpec.ofChange Rows.lawS0670AScriptSpec)) Rows.lawS0670AScriptCard :=
  Claim7.holds_of_told_tied_any_at .later 4 Ybaf.f4 "fmt.errorf" [] [] _ _ _ _ _ (by kernel_rfl) rfl rfl rfl laidOut (by kernel_rfl) rfl ⟨rfl, rfl, rfl, rfl, rfl, rfl, rfl⟩ rfl rfl (by kernel_rfl) (by kernel_rfl) Ybaf.func4 (by kernel_rfl)
    (of_decide_eq_true (by kernel_rfl)) (by unfold Func.isWrapper; first | (rw [if_pos (by decide +kernel)]; kernel_rfl) | (rw [if_neg (by decide +kernel)]; exact ⟨rfl, rfl⟩)) stops.symm rfl stopKnobs.symm (by kernel_rfl)
    (by kernel_rfl) (by kernel_rfl) (by kernel_rfl) (by kernel_rfl) (by kernel_rfl) (by kernel_rfl) (by kernel_rfl) (by kernel_rfl) (by kernel_rfl) rfl (by kernel_rfl) rfl rfl
    rfl rfl
    rfl (by kernel_rfl) (by kernel_rfl) (by kernel_rfl) (by decide) (by kernel_rfl) lawS0670AScript_row_tie
    (OpenClaim.moreEntering_of (by kernel_rfl) (by kernel_rfl) (by kernel_rfl) (by kernel_rfl) (by kernel_rfl) (by kernel_rfl) (by kernel_rfl) (by kernel_rfl) (by kernel_rfl) (by kernel_rfl))
    ⟨_, WideRow.started_initial, quiet _⟩
    (fun os started _ H enc _ => lifted os started H enc)

/-- ████ THE STATEMENT ████ -/
theorem proved : Rows.LawS0670AScriptToldSaid := over
#print axioms proved
end Go.Proofs.YbulkmvuFmt.lawS0670AScript
