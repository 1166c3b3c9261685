/-
  'Rows.LawS0670CIdleSaid' ('example.com/pagewright/pagewright.LawS0670CIdle'): the frame after the shells that were given for its sisters; the walk: YbulkmvuIdle, YbulkmvuIdleEnds.
-/
import Derived.Test.YbulkmvuRows
import Derived.Test.YbulkmvuIdle
import Derived.Test.YbulkmvuIdleEnds
import Derived.WalkKit
import Derived.ProofKit
import Derived.OpenShut
import Derived.ShutString
import Derived.ChangeOld
import Derived.Below
import Derived.Deep.Slices
namespace Go.Proofs.Ybulkmvu.lawS0670CIdle
open Go.ChangeShapes Go.WideShapes Go.ChangeAt Go.RowKit Go.Deep
open Go.Proofs.Ybulkmvu.Irmb (RowAt OffsRaw offsIn_of_raw main_any long_any big_any)
set_option linter.unusedVariables false

theorem own : ownKnob Yba.prog.godebug = none := by kernel_rfl
theorem laidOut : laidOutB Yba.prog = true := by kernel_rfl
theorem cells25 : Yba.prog.cellsOf 25 = 1 := by kernel_rfl
theorem cells52 : Yba.prog.cellsOf 52 = 1 := by kernel_rfl
theorem cells61 : Yba.prog.cellsOf 61 = 1 := by kernel_rfl

/-- A slice of integers that came in. -/
theorem open_row {H : Type} {enc : TypeId × Value → H} {w : World} {base : Nat} {spare : Nat → Bool} {held : Bool} {n : Nat} {t e : TypeId} {k : IntKind} {cs : List Value} {x : DataW H × List MemPlace} (ht : Yba.prog.underlying t = some (.slice e)) (he : Yba.prog.underlying e = some (.int k)) (hc : Yba.prog.cellsOf e = 1)
    (h : DataW.trod enc Yba.prog w base spare held n t cs = some x) : ∃ a l c z, cs = [.slice a l c] ∧ (a = none ∧ l = 0 ∧ c = 0 ∨ ∃ ad, a = some ad) ∧ RowAt k w (fun _ => True) a l z := by
  rcases open_ints ht he hc h with ⟨h0, _⟩ | ⟨ad, l, c, zs, h0, _, _, _, hl, _, hx, _⟩
  · exact ⟨none, 0, 0, fun _ => 0, h0, Or.inl ⟨rfl, rfl, rfl⟩, 0, 0, fun h => absurd h (by omega), fun j hj => absurd hj (by omega)⟩
  · have hlz : l ≤ zs.length := by rw [hl]; split <;> omega
    refine ⟨some ad, l, c, fun j => zs.getD j 0, h0, Or.inr ⟨_, rfl⟩, ?_⟩
    obtain ⟨b, off, spot⟩ := ad
    by_cases hl0 : l = 0
    · exact ⟨0, 0, fun h => absurd h (by omega), fun j hj => absurd hj (by omega)⟩
    · have hc0 := hx 0 (by omega)
      have hspot : spot = none := by simpa [Addr.add] using World.cell?_spot hc0
      subst hspot
      refine ⟨b, off, fun _ => ⟨rfl, trivial, World.block_lt_of_cell? _ _ hc0⟩, fun j hj => ?_⟩
      have := hx j (by omega)
      rwa [Addr.add_lit] at this

/-- The slice of slices. -/
theorem open_offs {H : Type} {enc : TypeId × Value → H} {w : World} {base : Nat} {spare : Nat → Bool} {held : Bool} {n : Nat} {a : Option Addr} {len cap : Nat} {x : DataW H × List MemPlace} (h : DataW.trod enc Yba.prog w base spare held n 51 [.slice a len cap] = some x) :
    ∃ sl ln cp os, OffsRaw w a len sl ln cp os := by
  rcases open_slice Yba.underlying51 h with ⟨h0, _⟩ | ⟨ad, l, c, m, k, D, Pl, h0, _, hl, _, hm, _, hx⟩
  · simp at h0
    exact ⟨fun _ => none, fun _ => 0, fun _ => 0, fun _ _ => 0, 0, 0, fun h => absurd h (by omega), fun j hj => absurd hj (by omega)⟩
  · simp at h0
    obtain ⟨rfl, rfl, rfl⟩ := h0
    have hlm : len ≤ m := by rw [hm]; split <;> omega
    obtain ⟨f, hf⟩ := choose_lt (α := Option Addr × Nat × Nat × (Nat → Int)) (n := len) (p := fun i q => w.cell? (ad.add i) = some (.slice q.1 q.2.1 q.2.2.1) ∧ (q.1 = none ∧ q.2.1 = 0 ∧ q.2.2.1 = 0 ∨ ∃ y, q.1 = some y) ∧ RowAt .u16 w (fun _ => True) q.1 q.2.1 q.2.2.2) (fun i hi => by
      obtain ⟨cs, h1, h2⟩ := hx i (by omega)
      obtain ⟨a', l', c', z, rfl, e1, e2⟩ := open_row Yba.underlying52 Yba.underlying61 cells61 h2
      rw [cells52, Nat.mul_one] at h1
      have h3 := (World.cells?_some h1).2.2 0 (by omega)
      refine ⟨(a', l', c', z), ?_, e1, e2⟩
      simpa [Addr.add] using h3)
    obtain ⟨b, off, spot⟩ := ad
    refine ⟨fun j => (f j).1, fun j => (f j).2.1, fun j => (f j).2.2.1, fun j => (f j).2.2.2, ?_⟩
    by_cases hl0 : len = 0
    · exact ⟨0, 0, fun h => absurd h (by omega), fun j hj => absurd hj (by omega)⟩
    · have hc0 := (hf 0 (by omega)).1
      have hspot : spot = none := by simpa [Addr.add] using World.cell?_spot hc0
      subst hspot
      refine ⟨b, off, fun _ => ⟨rfl, World.block_lt_of_cell? _ _ hc0⟩, fun j hj => ⟨?_, (hf j hj).2.1, (hf j hj).2.2⟩⟩
      have := (hf j hj).1
      rwa [Addr.add_lit] at this

theorem walk (idle : Bool) (a0 oa : Option Addr) (n c0 m co : Nat) (sel wb : Int) (w : World) (hs : 0 ≤ sel ∧ sel ≤ 255) (hw : -9223372036854775808 ≤ wb ∧ wb ≤ 9223372036854775807) (h0 : ∃ z, RowAt .u64 w (fun _ => True) a0 n z) (h1 : ∃ sl ln cp os, OffsRaw w oa m sl ln cp os) :
    Calls Yba.prog 5 #[.bool idle, .slice a0 n c0, .slice oa m co, .int .u8 sel, .int .i64 wb] w fun e w' => e = .returned (.bool true) ∧ Below w.heap.size w w' := by
  obtain ⟨bs, h0⟩ := h0
  obtain ⟨sl, ln, cp, os, h1⟩ := h1
  by_cases hbig : 1024 < n ∨ 1024 < m
  · exact big_any w idle a0 oa n c0 m co sel wb hbig
  · by_cases hall : ∀ j, j < m → ln j ≤ 1024
    · exact main_any w idle a0 oa n c0 m co sel wb bs sl ln cp os (by omega) (by omega) hs.1 hs.2 hw.1 hw.2 h0 (offsIn_of_raw h1 hall)
    · obtain ⟨q, hq⟩ := Classical.not_forall.1 hall
      exact long_any w idle a0 oa n c0 m co q sel wb sl ln cp os (by omega) (by omega) (by omega) (by omega) h1

/-! ### THE ROW's STEP: WRITTEN OUT: LEAVE IT -/
set_option maxRecDepth 100000 in
theorem lifted (os : Os) (started : os.Started) (H : Type) (enc : TypeId × Value → H) :
    ReturnsInHanded {} Yba.checked os 5 .any (Rows.lawS0670CIdleSpec.pre6 enc Yba.prog Yba.f5 Rows.lawS0670CIdleRow.domain false) (Rows.lawS0670CIdleSpec.post enc Yba.prog Yba.f5 false true false false) := by
  refine returnsInHanded_of_change (C := Yba.checked) own started (by kernel_rfl) Yba.func5
    (ChangeSpec.witness6 (enc := enc) (C := Yba.checked) false ⟨#[], #[.bool false, .slice none 0 0, .slice none 0 0, .int .u8 0, .int .i64 0], []⟩ 8 (by kernel_rfl) (by kernel_rfl) (by kernel_rfl) (by kernel_rfl)) ?_
  intro W base args ds gs before hval0 hW hcnd _
  have hval : ∀ (j : Nat) t v, Yba.f5.params[j]? = some t → args[j]? = some v → Value.okWide Yba.prog W .any base t v := hval0
  have hW' := hW
  obtain ⟨p, q, hA0, hV, rfl, hfz, hnd⟩ := hW
  have hA : DataW.TrodAll enc Yba.prog W 0 (fun _ => true) true Yba.f5.params.toList args.toList ds p := hA0
  rw [Yba.params5] at hA hval
  obtain ⟨v0, vs0, d0, ds0, p0, q0, hargs, rfl, rfl, h0, r0⟩ := trodAll_cons hA
  obtain ⟨v1, vs1, d1, ds1, p1, q1, rfl, rfl, rfl, h1, r1⟩ := trodAll_cons r0
  obtain ⟨v2, vs2, d2, ds2, p2, q2, rfl, rfl, rfl, h2, r2⟩ := trodAll_cons r1
  obtain ⟨v3, vs3, d3, ds3, p3, q3, rfl, rfl, rfl, h3, r3⟩ := trodAll_cons r2
  obtain ⟨v4, vs4, d4, ds4, p4, q4, rfl, rfl, rfl, h4, r4⟩ := trodAll_cons r3
  obtain ⟨rfl, rfl, rfl⟩ := trodAll_nil r4
  obtain rfl : args = #[v0, v1, v2, v3, v4] := by cases args; simp_all
  obtain ⟨rfl, rfl⟩ := trodVars_none hV
  obtain ⟨b0, rfl⟩ := okWide_bool Yba.underlying4 (hval 0 4 v0 rfl rfl)
  obtain ⟨a1, len1, cap1, rfl⟩ := okWide_slice Yba.underlying50 (hval 1 50 v1 rfl rfl)
  obtain ⟨a2, len2, cap2, rfl⟩ := okWide_slice Yba.underlying51 (hval 2 51 v2 rfl rfl)
  obtain ⟨s3, rfl, rfl, rfl, w3⟩ := open_int Yba.underlying5 (hval 3 5 v3 rfl rfl) h3
  obtain ⟨s4, rfl, rfl, rfl, w4⟩ := open_int Yba.underlying2 (hval 4 2 v4 rfl rfl) h4
  have k0 := h0
  have k1 := h1
  have k2 := h2
  have lt0 : ∀ x ∈ p0, x.block < W.heap.size := by obtain ⟨m, hm⟩ := k0; exact DataW.trod_lt m _ _ _ hm
  have lt1 : ∀ x ∈ p1, x.block < W.heap.size := by obtain ⟨m, hm⟩ := k1; exact DataW.trod_lt m _ _ _ hm
  have lt2 : ∀ x ∈ p2, x.block < W.heap.size := by obtain ⟨m, hm⟩ := k2; exact DataW.trod_lt m _ _ _ hm
  have w1 : ∃ z, RowAt .u64 W (fun _ => True) a1 len1 z := by
    obtain ⟨fuel, hf⟩ := h1
    obtain ⟨a, l, c, z, e, _, hr⟩ := open_row Yba.underlying50 Yba.underlying25 cells25 hf
    simp [Value.cells] at e
    obtain ⟨rfl, rfl, rfl⟩ := e
    exact ⟨z, hr⟩
  have w2 : ∃ sl ln cp os, OffsRaw W a2 len2 sl ln cp os := by
    obtain ⟨fuel, hf⟩ := h2
    exact open_offs hf
  clear hA0 hval0
  refine (walk b0 a1 a2 len1 cap1 len2 cap2 s3 s4 W (bounds_u8 w3) (bounds_i64 w4) w1 w2).mono fun e W' ⟨he, bel⟩ => ?_
  subst he
  exact ⟨_, rfl, _, _, _, [], _, [], hW', trodAll_mk1 (shut_bool Yba.underlying4 _), (trodAll_cons_mk (Below.trod laidOut (by kernel_rfl) (of_decide_eq_true (by kernel_rfl)) k0 bel lt0) (trodAll_cons_mk (Below.trod laidOut (by kernel_rfl) (of_decide_eq_true (by kernel_rfl)) k1 bel lt1)
    (trodAll_cons_mk (Below.trod laidOut (by kernel_rfl) (of_decide_eq_true (by kernel_rfl)) k2 bel lt2) (trodAll_cons_mk (shut_int Yba.underlying5 w3) (trodAll_cons_mk (shut_int Yba.underlying2 w4) trodAll_mk0))))), rfl, bel.frame _, fun h => by cases h⟩

theorem over : Rows.lawS0670CIdleRow.holds Yba.pinned (OpenSpec.ofChange Rows.lawS0670CIdleSpec) :=
  OpenClaim.holds_of_wide 5 Yba.f5 rfl rfl rfl rfl rfl rfl rfl ⟨rfl, rfl, rfl, rfl, rfl⟩ rfl rfl rfl rfl rfl (by kernel_rfl) Yba.func5 (by kernel_rfl)
    (of_decide_eq_true (by kernel_rfl)) (by unfold Func.isWrapper; first | (rw [if_pos (by decide +kernel)]; kernel_rfl) | (rw [if_neg (by decide +kernel)]; exact ⟨rfl, rfl⟩))
    (fun os started H enc _ => lifted os started H enc)

/-- ████ THE STATEMENT ████ -/
theorem proved : Rows.LawS0670CIdleSaid := over
#print axioms proved
end Go.Proofs.Ybulkmvu.lawS0670CIdle
