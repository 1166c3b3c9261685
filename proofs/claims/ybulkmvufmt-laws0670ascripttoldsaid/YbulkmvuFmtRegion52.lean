/-
  The region of 'LawS0670AScript' that appends to the last CTA's row of the model: whatever its order.
-/
import Derived.Test.YbulkmvuFmtClose
import Derived.Deep.RegionHeld3
namespace Go.Proofs.YbulkmvuFmt
open Go.RowKit Go.Extern.Stop Go.Stop Go.Extern
set_option linter.unusedVariables false

/-- The region number i. -/
def region? (i : Nat) : Code → Option Code
  | .region j ops b => if j = i then some (.region j ops b) else none
  | .loop c => region? i c
  | .seq a b => match region? i a with
    | some c => some c
    | none => region? i b
  | .block _ c => region? i c
  | .scope c => region? i c
  | .cond _ a b => match region? i a with
    | some c => some c
    | none => region? i b
  | _ => none

theorem frame_to {Φ : Act → Prop} {arr : Array Value} {a0 : Option Addr} {n c B : Nat} (h : arr = frame a0 n c B (fun i => arr.getD i undef)) (hf : Φ ⟨frame a0 n c B (fun i => arr.getD i undef), []⟩) : Φ ⟨arr, []⟩ := by
  rw [← h] at hf
  exact hf

theorem code_eq {P : Program} {c c' : Code} {Q : Exit → Act → World → Prop} {a : Act} {w : World} (h : c = c') (hw : c'.wp P Q a w) : c.wp P Q a w := h ▸ hw

set_option maxHeartbeats 8000000 in
set_option maxRecDepth 1000000 in
theorem region52 (a0 : Option Addr) (n c B : Nat) (v : Nat → Value) (w3 : World) (own : Nat → List Nat) (lo : Nat) (V : List Nat → Value) (C : List Nat → Nat) (X : List Nat → List Value) (q r g4 k4 g5 k5 : Nat) (Q : Exit → Act → World → Prop)
    (h4 : v 4 = .slice (some ⟨g4, 0, none⟩) (q + 1) k4) (h13 : v 13 = .int .i64 ((q : Int) + 1)) (h22 : v 22 = .int .i64 ((r : Int) + 1)) (hq : q ≤ 512) (hr : r ≤ 512) (R : Rws w3 own lo V C X) (hlo : lo ≤ w3.heap.size)
    (e4 : V [4] = .slice (some ⟨g4, 0, none⟩) (q + 1) k4) (e5 : V [5, q] = .slice (some ⟨g5, 0, none⟩) (r + 1) k5) (x4 : (X [4])[q]? = some (V [5, q])) (x5 : (X [5, q])[r]? = some (V [6, q, r])) (hc6 : C [6, q, r] ≤ 600)
    (hQ : ∀ (v' : Nat → Value) (gv' cap4 : Nat) (w6 : World) (own6 : Nat → List Nat), v' 4 = v 4 → v' 5 = v 5 → v' 6 = v 6 → v' 7 = v 7 → v' 9 = v 9 → v' 10 = v 10 → v' 11 = v 11 → v' 12 = v 12 → v' 13 = v 13 → v' 14 = v 14 → v' 16 = v 16 → v' 52 = v 52 → Rws w6 own6 lo (upd V [6, q, r] (Value.slice (some ⟨gv', 0, none⟩) (C [6, q, r] + 1) cap4)) (upd C [6, q, r] (C [6, q, r] + 1)) (upd X [6, q, r] (X [6, q, r] ++ [.int .i64 0])) → Below lo w3 w6 → w3.heap.size + 1 ≤ w6.heap.size → (∀ y, y < w3.heap.size → (∀ g, (V [6, q, r]).ownBlock = some g → y ≠ g) → w6.heap[y]? = w3.heap[y]?) → Q .normal ⟨frame a0 n c B v', []⟩ (w6.setCell ⟨g5, r, none⟩ (Value.slice (some ⟨gv', 0, none⟩) (C [6, q, r] + 1) cap4))) :
    Code.wp Ybaf.prog ((Ybaf.f4.body.bind (region? 52)).getD .skip) Q ⟨frame a0 n c B v, []⟩ w3 := by
  obtain ⟨i3', hi3, hz30, hz31, hz32⟩ := info_parts info3
  have f4 := R.cellAt e4 x4
  rw [e5] at f4
  have f5 := R.cellAt e5 x5
  have d1 : w3.drew.cell? ⟨g4, q, none⟩ = some (.slice (some ⟨g5, 0, none⟩) (r + 1) k5) := f4.2
  have d2 : w3.drew.cell? ⟨g5, r, none⟩ = some (V [6, q, r]) := f5.2
  have d3 : (w3.alloc (.cells #[.int .i64 0] 3)).cell? ⟨g4, q, none⟩ = some (.slice (some ⟨g5, 0, none⟩) (r + 1) k5) := cell_old f4.1 f4.2 _
  have d4 : (w3.alloc (.cells #[.int .i64 0] 3)).cell? ⟨g5, r, none⟩ = some (V [6, q, r]) := cell_old f5.1 f5.2 _
  have R3 : Hid (Rws (w3.alloc (.cells #[.int .i64 0] 3)).drew own lo V C X) := hide (R.below ((Below.refl _ _).alloc (Nat.le_refl _) _).drew)
  have HNW : Hid (∀ j u, [.int .i64 0][j]? = some u → (w3.alloc (.cells #[.int .i64 0] 3)).drew.cell? ((⟨w3.heap.size, 0, none⟩ : Addr).add j) = some u) := hide (by
    intro j u' hu'
    have hj : j = 0 := by have := (List.getElem?_eq_some_iff.1 hu').1; simpa using this
    subst hj
    simp at hu'
    subst hu'
    exact boxed_cell w3 _ 3)
  have hp1 : (0 : Int) < (q : Int) + 1 := by omega
  have hp2 : (q : Int) < (q : Int) + 1 := by omega
  have hp3 : (0 : Int) ≤ (q : Int) := by omega
  have hp4 : IntKind.i64.wrap ((q : Int) + 1 - 1) = (q : Int) := by rw [IntWalk.i64_in _ (by omega)]; omega
  have hp5 : IntKind.i64.wrap (q : Int) = (q : Int) := IntWalk.i64_in _ (by omega)
  have hr1 : (0 : Int) < (r : Int) + 1 := by omega
  have hr2 : (r : Int) < (r : Int) + 1 := by omega
  have hr3 : (0 : Int) ≤ (r : Int) := by omega
  have hr4 : IntKind.i64.wrap ((r : Int) + 1 - 1) = (r : Int) := by rw [IntWalk.i64_in _ (by omega)]; omega
  have hr5 : IntKind.i64.wrap (r : Int) = (r : Int) := IntWalk.i64_in _ (by omega)
  have HV4 := hide e4
  have HE5 := hide e5
  have HX4 := hide x4
  have HX5' := hide x5
  have HQ := hide hQ
  have H4 := hide h4
  have H13 := hide h13
  unfold frame
  rw [h4, h13, h22]
  clear hQ e4 e5 x4 x5 R f4 f5 h4 h13 h22
  conv => arg 2; whnf
  refine wp_region_noPanic ?_
  go_region_law (refine step_append_rws' rfl (.tmp 198) (.tmp 199) 27 rfl [6, q, r] i3' _ 8 Ybaf.underlying27 hi3 hz30 hz31 hz32 rfl (by show 0 < 1; omega) (by simp [Act.eval]) R3.out ⟨w3.heap.size, 0, none⟩ 1 [.int .i64 0] (by simp [Act.eval]) rfl HNW.out (by intro u' hu'; simp at hu'; subst hu'; rfl) (by omega) (by omega) (by simp; omega) ?_; intro v' w6 own6 R6 hb6 hs6 hq6 hv6; obtain ⟨gv', cap4, rfl⟩ := hv6; have ev4 : (upd V [6, q, r] (Value.slice (some ⟨gv', 0, none⟩) (C [6, q, r] + 1) cap4)) [4] = .slice (some ⟨g4, 0, none⟩) (q + 1) k4 := (upd_other _ _ (ne_head (by omega))).trans HV4.out; have ev5 : (upd V [6, q, r] (Value.slice (some ⟨gv', 0, none⟩) (C [6, q, r] + 1) cap4)) [5, q] = .slice (some ⟨g5, 0, none⟩) (r + 1) k5 := (upd_other _ _ (ne_head (by omega))).trans HE5.out; have ex4 : (upd X [6, q, r] (X [6, q, r] ++ [.int .i64 0])) [4] = X [4] := upd_other _ _ (ne_head (by omega)); have ex5 : (upd X [6, q, r] (X [6, q, r] ++ [.int .i64 0])) [5, q] = X [5, q] := upd_other _ _ (ne_head (by omega)); have s4 : w6.cell? ⟨g4, q, none⟩ = some (.slice (some ⟨g5, 0, none⟩) (r + 1) k5) := (R6.cellAt ev4 (by rw [ex4, ← HE5.out]; exact HX4.out)).2; have s5 : w6.cell? ⟨g5, r, none⟩ = some (V [6, q, r]) := (R6.cellAt ev5 (by rw [ex5]; exact HX5'.out)).2; have s6 : w6.frozen? ⟨g5, r, none⟩ = false := R6.frozenAt ev5 r; have HR6 := hide R6; have HB6 := hide hb6; have HQ6 := hide hq6; clear R6 hb6 hq6 ev4 ev5 ex4 ex5)
  all_goals (
    refine NoPanic.normal ?_
    refine frame_to (a0 := a0) (n := n) (c := c) (B := B) (Φ := fun a => Q .normal a _) ?_ (HQ.out _ gv' cap4 w6 own6 ?_ rfl rfl rfl rfl rfl rfl rfl ?_ rfl rfl rfl HR6.out (((Below.refl lo w3).alloc hlo _).drew.trans HB6.out) (by have := hs6; simp at this; omega) (fun y hy hg => (HQ6.out y (by simp; omega) hg).trans (show (w3.alloc _).heap[y]? = _ from Below.heap_alloc _ _ _ hy)))
    · kernel_rfl
    · exact H4.out.symm
    · exact H13.out.symm)
end Go.Proofs.YbulkmvuFmt
