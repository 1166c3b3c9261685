/-
  'Rows.LawS0670AHeaderToldSaid' ('example.com/pagewright/pagewright.LawS0670AHeader'): told and tied. The walk: YbulkmvuFmtHeader; the start that fits: YbulkmvuFmtLaid; the tie: the given YbulkmvuFmtTie.
-/
import Derived.Test.YbulkmvuFmtCards
import Derived.Test.YbulkmvuFmtTie
import Derived.Test.YbulkmvuFmtHeader
import Derived.Test.YbulkmvuFmtLaid
import Derived.ProofKit
import Derived.OpenShut
import Derived.ShutString
import Derived.ChangeOld
import Derived.Below
import Derived.Deep.Slices
import Derived.Stop.JoinedAt
import Derived.Stop.JoinedTold
import Derived.SevenTiedAt
namespace Go.Proofs.YbulkmvuFmt.lawS0670AHeader
open Go.ChangeShapes Go.WideShapes Go.ChangeAt Go.RowKit Go.Deep
open Go.ChangeMaps (open_string shut_string)
open Go.Extern.Stop Go.Stop Go.Extern
set_option linter.unusedVariables false

theorem own : ownKnob Ybaf.prog.godebug = none := by kernel_rfl
theorem laidOut : laidOutB Ybaf.prog = true := by kernel_rfl
theorem cells9 : Ybaf.prog.cellsOf 9 = 1 := by kernel_rfl

/-- A slice of strings that came in. -/
theorem open_strs {H : Type} {enc : TypeId × Value → H} {w : World} {base : Nat} {spare : Nat → Bool} {held : Bool} {n : Nat} {a : Option Addr} {len cap : Nat} {x : DataW H × List MemPlace} (h : DataW.trod enc Ybaf.prog w base spare held n 22 [.slice a len cap] = some x) :
    ∃ xs : List ByteArray, xs.length = len ∧ StrsAt w a xs ∧ (a = none → cap = 0) := by
  rcases open_slice Ybaf.underlying22 h with ⟨h0, _⟩ | ⟨ad, l, c, m, k, D, Pl, h0, _, hl, _, hm, _, hx⟩
  · simp at h0
    exact ⟨[], by simp [h0], Or.inl ⟨h0.1, rfl⟩, fun _ => h0.2.2⟩
  · simp at h0
    obtain ⟨rfl, rfl, rfl⟩ := h0
    have hlm : len ≤ m := by rw [hm]; split <;> omega
    obtain ⟨f, hf⟩ := choose_lt (α := ByteArray) (n := len) (p := fun i q => w.cell? (ad.add i) = some (.string q)) (fun i hi => by
      obtain ⟨cs, h1, h2⟩ := hx i (by omega)
      obtain ⟨s, rfl, _, _⟩ := DataW.trod_string Ybaf.underlying9 h2
      rw [cells9, Nat.mul_one] at h1
      have h3 := (World.cells?_some h1).2.2 0 (by omega)
      exact ⟨s, by simpa [Addr.add] using h3⟩)
    refine ⟨(List.range len).map f, by simp, Or.inr ⟨ad, rfl, fun i s hs => ?_⟩, fun h => by cases h⟩
    have hi : i < len := by have := (List.getElem?_eq_some_iff.1 hs).1; simpa using this
    have hsf : s = f i := by simpa [hi] using hs.symm
    rw [hsf]
    exact hf i hi

theorem walk (F : Interp) (kw : ByteArray) (a1 : Option Addr) (len cap : Nat) (w : World) (hF : F.answers w.tape) (h : ∃ xs : List ByteArray, xs.length = len ∧ StrsAt w a1 xs ∧ (a1 = none → cap = 0)) :
    Calls Ybaf.prog 3 #[.string kw, .slice a1 len cap] w fun e w' => e = .returned (.bool true) ∧ Below w.heap.size w w' := by
  by_cases hbig : 1024 < len
  · exact header_big kw a1 len cap w hbig
  · obtain ⟨xs, rfl, h1, h2⟩ := h
    exact header_any F kw a1 cap xs w hF (by omega) h1 h2

set_option maxRecDepth 100000 in
set_option maxHeartbeats 1000000 in
theorem lifted (os : Os) (started : os.Started) (H : Type) (enc : TypeId × Value → H) :
    ReturnsInTold none {} Ybaf.checked os 3 .any Input.okWide ((OpenSpec.ofChange Rows.lawS0670AHeaderSpec).preRow enc Ybaf.prog Ybaf.f3 Rows.lawS0670AHeaderRow.domain false Rows.lawS0670AHeaderRow.laid)
      (fun F => ((OpenSpec.ofChange Rows.lawS0670AHeaderSpec).at F).post enc Ybaf.prog Ybaf.f3 false true false false) (aloneAtReturn Ybaf.prog) nothingAlways := by
  obtain ⟨w0, s1, s2, s3, s4, s5⟩ := header_start os enc
  refine returnsInTold_of_row (C := Ybaf.checked) (s := OpenSpec.ofChange Rows.lawS0670AHeaderSpec) (by kernel_rfl) own started (by kernel_rfl) Ybaf.func3
    (OpenSpec.witness_stopped_atRef (enc := enc) (C := Ybaf.checked) false w0 #[.string ⟨#[]⟩, .slice none 0 0] s1 s2 s3 s4 s5) ?_
  intro F W base args ds gs before _ hF hval0 hW hcnd0 _ _ hL _
  clear s1 s2 s3 s4 s5 hL hcnd0
  have hval : ∀ (j : Nat) t v, Ybaf.f3.params[j]? = some t → args[j]? = some v → Value.okWide Ybaf.prog W .any base t v := hval0
  have hW' := hW
  obtain ⟨p, q, hA0, hV0, rfl, _, _⟩ := hW
  have hA : DataW.TrodAll enc Ybaf.prog W 0 (fun _ => true) true Ybaf.f3.params.toList args.toList ds p := hA0
  rw [Ybaf.params3] at hA hval
  obtain ⟨v0, vs0, d0, ds0, p0, q0, hargs, rfl, rfl, h0, r0⟩ := trodAll_cons hA
  obtain ⟨v1, vs1, d1, ds1, p1, q1, rfl, rfl, rfl, h1, r1⟩ := trodAll_cons r0
  obtain ⟨rfl, rfl, rfl⟩ := trodAll_nil r1
  obtain rfl : args = #[v0, v1] := by cases args; simp_all
  obtain ⟨rfl, rfl⟩ := trodVars_none hV0
  obtain ⟨a0, rfl, rfl, rfl, w0'⟩ := open_string Ybaf.underlying9 (hval 0 9 v0 rfl rfl) h0
  obtain ⟨a1, len1, cap1, rfl⟩ := okWide_slice Ybaf.underlying22 (hval 1 22 v1 rfl rfl)
  have k1 := h1
  have lt1 : ∀ x ∈ p1, x.block < W.heap.size := by obtain ⟨m, hm⟩ := k1; exact DataW.trod_lt m _ _ _ hm
  have w1 : ∃ xs : List ByteArray, xs.length = len1 ∧ StrsAt W a1 xs ∧ (a1 = none → cap1 = 0) := by
    obtain ⟨fuel, hf⟩ := h1
    exact open_strs hf
  clear hA0 hV0 hval0
  refine (walk F.told a0 a1 len1 cap1 W hF w1).mono fun e W' ⟨he, bel⟩ => ?_
  subst he
  exact ⟨_, rfl, _, _, _, [], _, [], hW', trodAll_mk1 (shut_bool Ybaf.underlying4 _), (trodAll_cons_mk (shut_string Ybaf.underlying9 w0') (trodAll_cons_mk (Below.trod laidOut (by kernel_rfl) (of_decide_eq_true (by kernel_rfl)) k1 bel lt1) trodAll_mk0)), rfl, bel.frame _, fun h => by cases h⟩

theorem stops : Ybaf.pinned.checked.prog.stops = ["fmt.errorf"] := by kernel_rfl
theorem stopKnobs : Ybaf.pinned.checked.prog.stopKnobs = [] := by kernel_rfl
theorem quiet (os : Os) : Stop.quiet Ybaf.pinned.checked.prog os := by
  intro k hk
  rw [stopKnobs] at hk
  cases hk

theorem over : Claim7.holds Ybaf.pinned (.plain (OpenSpec.ofChange Rows.lawS0670AHeaderSpec)) Rows.lawS0670AHeaderCard :=
  Claim7.holds_of_told_tied_any_at .later 3 Ybaf.f3 "fmt.errorf" [] [] _ _ _ _ _ (by kernel_rfl) rfl rfl rfl laidOut (by kernel_rfl) rfl ⟨rfl, rfl, rfl, rfl, rfl, rfl, rfl⟩ rfl rfl (by kernel_rfl) (by kernel_rfl) Ybaf.func3 (by kernel_rfl)
    (of_decide_eq_true (by kernel_rfl)) (by unfold Func.isWrapper; first | (rw [if_pos (by decide +kernel)]; kernel_rfl) | (rw [if_neg (by decide +kernel)]; exact ⟨rfl, rfl⟩)) stops.symm rfl stopKnobs.symm (by kernel_rfl)
    (by kernel_rfl) (by kernel_rfl) (by kernel_rfl) (by kernel_rfl) (by kernel_rfl) (by kernel_rfl) (by kernel_rfl) (by kernel_rfl) (by kernel_rfl) rfl (by kernel_rfl) rfl rfl
    rfl rfl
    rfl (by kernel_rfl) (by kernel_rfl) (by kernel_rfl) (by decide) (by kernel_rfl) lawS0670AHeader_row_tie
    (OpenClaim.moreEntering_of (by kernel_rfl) (by kernel_rfl) (by kernel_rfl) (by kernel_rfl) (by kernel_rfl) (by kernel_rfl) (by kernel_rfl) (by kernel_rfl) (by kernel_rfl) (by kernel_rfl))
    ⟨_, WideRow.started_initial, quiet _⟩
    (fun os started _ H enc _ => lifted os started H enc)

/-- ████ THE STATEMENT ████ -/
theorem proved : Rows.LawS0670AHeaderToldSaid := over
#print axioms proved
end Go.Proofs.YbulkmvuFmt.lawS0670AHeader
