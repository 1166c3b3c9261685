/-
  The library's tables stay as they were laid.
-/
import Derived.Test.YbulkmvuFmtClose
import Derived.Lib.SmallJoins
namespace Go.Proofs.YbulkmvuFmt
open Go.RowKit Go.Extern.Stop Go.Stop Go.Extern

theorem powName : Ybaf.prog.globalNamed "internal/strconv.uint64pow10" = some 0 := by kernel_rfl
theorem pow_below {w w' : World} (h : Pow w) (hb : Below w.heap.size w w') : Pow w' := Go.Joins.tab_stays powName h hb (Nat.le_refl _)
theorem bru_lt {w : World} (h : Bru w) : 4 < w.heap.size := World.block_lt_of_cell? _ _ h
theorem bru_below {w w' : World} (h : Bru w) (hb : Below w.heap.size w w') : Bru w' := cell_below hb (bru_lt h) h
theorem hex_str (l : List UInt8) : (⟨#[48, 120]⟩ ++ ⟨l.toArray⟩ : ByteArray) = ⟨(48 :: 120 :: l).toArray⟩ := by
  apply ByteArray.ext
  simp

theorem format_half (a : Nat) (ha : a ≤ 18446744073709551615) (w : World) (hp : Pow w) :
    Calls Ybaf.prog 7 #[.int .u64 ((a : Int) / 2), .int .i64 10] w fun e w' => ∃ l : List UInt8, e = .returned (.string ⟨l.toArray⟩) ∧ Below w.heap.size w w' ∧ Num 10 (a / 2) l := by
  have h := format_dec (a / 2) (by omega) w hp
  rw [show ((a / 2 : Nat) : Int) = (a : Int) / 2 by omega] at h
  exact h

/-- The last instruction, behind the parser. -/
theorem ins_cells {w own lo V C X v1 c0 c1 c2} {q r p m g0 k0 g1 k1 g2 k2 : Nat} (R : Rws w own lo (upd V [3, q, r, p] v1) (upd C [3, q, r, p] (C [3, q, r, p] + 1)) (upd (upd X [3, q, r, p] (X [3, q, r, p] ++ [c0, c1, c2])) [2, q, r] ((X [2, q, r]).set p v1)))
    (hV0 : V [0] = .slice (some ⟨g0, 0, none⟩) (q + 1) k0) (hV1 : V [1, q] = .slice (some ⟨g1, 0, none⟩) (r + 1) k1) (hV2 : V [2, q, r] = .slice (some ⟨g2, 0, none⟩) (p + 1) k2) (hX0 : (X [0])[q * 2 + 1]? = some (V [1, q])) (hX1 : (X [1, q])[r]? = some (V [2, q, r]))
    (hC : C [3, q, r, p] = m) (h3 : (X [3, q, r, p]).length = m * 3) (h2 : p < (X [2, q, r]).length) :
    ∃ g3 k3, w.cell? ⟨g0, q * 2 + 1, none⟩ = some (.slice (some ⟨g1, 0, none⟩) (r + 1) k1) ∧ w.cell? ⟨g1, r, none⟩ = some (.slice (some ⟨g2, 0, none⟩) (p + 1) k2) ∧ w.cell? ⟨g2, p, none⟩ = some (.slice (some ⟨g3, 0, none⟩) (m + 1) k3) ∧ w.cell? ⟨g3, m * 3, none⟩ = some c0 ∧ w.cell? ⟨g3, m * 3 + 1, none⟩ = some c1 ∧ w.cell? ⟨g3, m * 3 + 2, none⟩ = some c2 ∧ g2 < w.heap.size ∧ g3 < w.heap.size := by
  obtain ⟨g3, k3, e3, -, t3, -, -, x3, -⟩ := R.at [3, q, r, p] (by rw [upd_same]; omega)
  rw [upd_same, upd_same, hC] at e3
  have xs : ∀ j, j < 3 → w.cell? ⟨g3, m * 3 + j, none⟩ = [c0, c1, c2][j]? := fun j hj => by
    obtain ⟨u, hu⟩ : ∃ u, [c0, c1, c2][j]? = some u := ⟨_, List.getElem?_eq_getElem (by simpa using hj)⟩
    rw [hu]
    refine x3 _ _ ?_
    rw [upd_other _ _ (ne_head (by omega)), upd_same, List.getElem?_append_right (by omega), h3, Nat.add_sub_cancel_left]
    exact hu
  have y0 := R.cellAt (t := [0]) (j := q * 2 + 1) (u := V [1, q]) ((upd_other _ _ (ne_head (by omega))).trans hV0) (by rw [upd_other _ _ (ne_head (by omega)), upd_other _ _ (ne_head (by omega))]; exact hX0)
  have y1 := R.cellAt (t := [1, q]) (j := r) (u := V [2, q, r]) ((upd_other _ _ (ne_head (by omega))).trans hV1) (by rw [upd_other _ _ (ne_head (by omega)), upd_other _ _ (ne_head (by omega))]; exact hX1)
  have y2 := R.cellAt (t := [2, q, r]) (j := p) (u := v1) ((upd_other _ _ (ne_head (by omega))).trans hV2) (by rw [upd_same, List.getElem?_set_self h2])
  rw [hV1] at y0
  rw [hV2] at y1
  rw [e3] at y2
  exact ⟨g3, k3, y0.2, y1.2, y2.2, xs 0 (by omega), xs 1 (by omega), xs 2 (by omega), y2.1, t3⟩

/-- The last warp and all above it, on both sides. -/
theorem In.all {F : Interp} {a0 : Option Addr} {n c k b off : Nat} {u : Nat → Value} {w wr : World} {s : St3} {own : Nat → List Nat} {V : List Nat → Value} {C : List Nat → Nat} {X : List Nat → List Value} {q r p : Nat} {nc : Nat → Nat} {nw : Nat → Nat → Nat} {ni : Nat → Nat → Nat → Nat} {nm : Nat → ByteArray} {na : Nat}
    (h : In F a0 n c k b off u w wr s own V C X (q + 1) nc nw ni nm na) (hr : nc q = r + 1) (hp : nw q r = p + 1) :
    ∃ g4 k4 g5 k5 g6 k6 g0 k0 g1 k1 g2 k2 a3 k3, (V [4] = .slice (some ⟨g4, 0, none⟩) (q + 1) k4 ∧ V [5, q] = .slice (some ⟨g5, 0, none⟩) (r + 1) k5 ∧ V [6, q, r] = .slice (some ⟨g6, 0, none⟩) (p + 1) k6 ∧ V [0] = .slice (some ⟨g0, 0, none⟩) (q + 1) k0 ∧ V [1, q] = .slice (some ⟨g1, 0, none⟩) (r + 1) k1 ∧ V [2, q, r] = .slice (some ⟨g2, 0, none⟩) (p + 1) k2 ∧ V [3, q, r, p] = .slice a3 (ni q r p) k3) ∧
      (wr.cell? ⟨g4, q, none⟩ = some (.slice (some ⟨g5, 0, none⟩) (r + 1) k5) ∧ wr.cell? ⟨g5, r, none⟩ = some (.slice (some ⟨g6, 0, none⟩) (p + 1) k6) ∧ wr.cell? ⟨g6, p, none⟩ = some (.int .i64 (ni q r p)) ∧ (∀ j, wr.frozen? ⟨g6, j, none⟩ = false)) ∧ g4 < wr.heap.size ∧ g5 < wr.heap.size ∧ g6 < wr.heap.size ∧ w.heap.size + 1 ≤ g6 := by
  obtain ⟨g6, k6, g2, k2, a3, k3, e6, t6, x6, e2, t2, e3, x2, f6, l6⟩ := h.lastW hp
  obtain ⟨g5, k5, a6, k6', g1, k1, a2, k2', e5, t5, e6', x5, e1, t1, e2', x1, f5⟩ := h.lastC hr
  obtain ⟨g4, k4, a5, k5', g0, k0, a1, k1', e4, t4, e5', x4, e0, t0, e1', x0, f4⟩ := h.lastK
  refine ⟨g4, k4, g5, k5, g6, k6, g0, k0, g1, k1, g2, k2, a3, k3, ⟨e4, e5, e6, e0, e1, e2, e3⟩, ⟨?_, ?_, x6, f6⟩, t4, t5, t6, l6⟩
  · rw [← e5, e5']; exact x4
  · rw [← e6, e6']; exact x5
end Go.Proofs.YbulkmvuFmt
