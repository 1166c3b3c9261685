/-
  'LawS0669AFlat': the walk.
-/
import Derived.Test.YbulkmvgNodes
import Derived.Deep.AppendLies
namespace Go.Proofs.Ybulkmvg.Flat
open Go.RowKit Go.Proofs.Ybulkmvg.Nodes

theorem info27 : (Yba.prog.info? 27).map (fun i => (i.zero, i.size, i.bytes)) = some (some (.agg #[.string ByteArray.empty, .int .i64 0, .slice none 0 0]), 3, 48) := by kernel_rfl

/-- The cells of n leaves, one behind the other. -/
def rep (s : ByteArray) (k : Int) : Nat → List Value
  | 0 => []
  | n + 1 => rep s k n ++ [.string s, .int .i64 k, .slice none 0 0]

theorem rep_length (s : ByteArray) (k : Int) (n : Nat) : (rep s k n).length = n * 3 := by
  induction n with
  | zero => rfl
  | succ n ih => simp [rep, ih]; omega

theorem rep_at (s : ByteArray) (k : Int) (n i : Nat) (h : i < n) :
    (rep s k n)[i * 3]? = some (.string s) ∧ (rep s k n)[i * 3 + 1]? = some (.int .i64 k) ∧ (rep s k n)[i * 3 + 2]? = some (.slice none 0 0) := by
  induction n with
  | zero => omega
  | succ n ih =>
    have hl := rep_length s k n
    by_cases hi : i < n
    · obtain ⟨h0, h1, h2⟩ := ih hi
      simp only [rep]
      rw [List.getElem?_append_left (by omega), List.getElem?_append_left (by omega), List.getElem?_append_left (by omega)]
      exact ⟨h0, h1, h2⟩
    · obtain rfl : i = n := by omega
      simp only [rep]
      rw [List.getElem?_append_right (by omega), List.getElem?_append_right (by omega), List.getElem?_append_right (by omega), hl]
      simp

theorem leaf (w : World) (s : ByteArray) (k : Int) (d : Nat) (cap : Nat) (ao : Option Addr) : TreeAt w (d + 1) (.agg #[.string s, .int .i64 k, .slice ao 0 cap]) 1 :=
  ⟨s, k, ao, 0, cap, [], rfl, rfl, by omega, rfl, fun h => absurd h (by omega)⟩

theorem add0 (g j : Nat) : (⟨g, 0, none⟩ : Addr).add j = ⟨g, j, none⟩ := by unfold Addr.add; split <;> simp_all

theorem row_tree {w : World} {base : Nat} (s : ByteArray) (k : Int) (ao : Option Addr) (n cap : Nat) (hn : n ≤ 1000000) (h : w.ownsRow base 27 3 (.slice ao n cap) n (rep s k n)) :
    TreeAt w 2 (.agg #[.string s, .int .i64 k, .slice ao n cap]) (1 + n) := by
  refine ⟨s, k, ao, n, cap, List.replicate n 1, rfl, by simp, hn, by simp, fun h0 => ?_⟩
  obtain ⟨g, cap', hv, _, _⟩ := h.form h0
  simp only [Value.slice.injEq] at hv
  obtain ⟨rfl, _, rfl⟩ := hv
  refine ⟨g, rfl, fun i hi => ⟨s, k, none, 0, 0, ?_⟩⟩
  obtain ⟨h0, h1, h2⟩ := rep_at s k n i hi
  have c := h.cells (g := g) rfl
  have e0 := c _ _ h0
  have e1 := c _ _ h1
  have e2 := c _ _ h2
  rw [add0] at e0 e1 e2
  refine ⟨e0, e1, e2, ?_⟩
  have : (List.replicate n 1).getD i 0 = 1 := by simp [List.getD_eq_getElem?_getD, hi]
  rw [this]
  exact leaf _ _ _ _ _ _

/-- What holds at the head of each round: 'c' lies whole in its block B; its 'Of' is a row of j leaves of the call's own. -/
def Inv (w : World) (B : Nat) (s : ByteArray) (k : Int) (j : Nat) (wr : World) : Prop :=
  ∃ ao cap, wr.heap[B]? = some (.cells #[.string s, .int .i64 k, .slice ao j cap] 27 (0, 0)) ∧ wr.ownsRow (B + 1) 27 3 (.slice ao j cap) j (rep s k j) ∧ Below B w wr

theorem inv_step {w wr w2 : World} {B : Nat} {s : ByteArray} {k : Int} {j g cap cap' : Nat} {ao : Option Addr} {o : Obj} (_hBw : B ≤ w.heap.size)
    (hB : wr.heap[B]? = some (.cells #[.string s, .int .i64 k, .slice ao j cap] 27 (0, 0))) (hown : wr.ownsRow (B + 1) 27 3 (.slice ao j cap) j (rep s k j)) (hbel : Below B w wr)
    (hown2 : w2.ownsRow (B + 1) 27 3 (.slice (some ⟨g, 0, none⟩) (j + 1) cap') (j + 1) (rep s k j ++ [.string s, .int .i64 k, .slice none 0 0]))
    (hgrow : (wr.alloc o).grownBy w2 (Value.slice ao j cap).ownBlock) :
    w2.heap[B]? = some (.cells #[.string s, .int .i64 k, .slice ao j cap] 27 (0, 0)) ∧ Inv w B s k (j + 1) (w2.setCell ⟨B, 2, none⟩ (.slice (some ⟨g, 0, none⟩) (j + 1) cap')) := by
  have hlt : B < wr.heap.size := lt_of_block hB
  have hB1 : (wr.alloc o).heap[B]? = some (.cells #[.string s, .int .i64 k, .slice ao j cap] 27 (0, 0)) := by rw [Below.heap_alloc _ _ _ hlt]; exact hB
  have hne : some B ≠ (Value.slice ao j cap).ownBlock := fun e => by have := (hown.lt B e.symm).1; omega
  have hB2 : w2.heap[B]? = some (.cells #[.string s, .int .i64 k, .slice ao j cap] 27 (0, 0)) := by rw [hgrow.block B (by simp; omega) hne]; exact hB1
  refine ⟨hB2, some ⟨g, 0, none⟩, cap', ?_, ownsRow_setCell_below hown2 (by simp) _, ?_⟩
  · rw [heap_setCell_same _ _ _ _ _ _ hB2]; simp
  · have h3 : Below B w w2 := (hbel.alloc (by omega) o).grown hgrow (by simp; omega) (fun q hq => by have := (hown.lt q hq).1; omega)
    exact h3.setCell (p := ⟨B, 2, none⟩) (Nat.le_refl _) _

theorem new3 (w : World) (a b c : Value) (t : TypeId) : ∀ j u, [a, b, c][j]? = some u → (w.alloc (.cells #[a, b, c] t)).cell? ((⟨w.heap.size, 0, none⟩ : Addr).add j) = some u :=
  fun j u h => World.news_of_block (heap_alloc_new w _) j u (by simpa using h)

theorem ret_bool {b : Bool} (h : b = true) : Ending.returned (.bool b) = .returned (.bool true) := by rw [h]

set_option maxHeartbeats 400000 in
theorem walk (a0 : Int) (a1 : ByteArray) (a2 : Int) (h0 : 0 ≤ a0) (h1 : a0 ≤ 65535) (w : World) :
    Calls Yba.prog 4 #[.int .u16 a0, .string a1, .int .i64 a2] w fun e w' => e = .returned (.bool true) ∧ Below w.heap.size w w' := by
  obtain ⟨i0, hi, hz0, hz1, hz2⟩ := info_parts info27
  obtain ⟨cnt, hcnt, hlt⟩ : ∃ cnt : Nat, a0 % 300 = cnt ∧ cnt < 300 := ⟨(a0 % 300).toNat, by omega, by omega⟩
  go_enter Yba.func4, Yba.ntmps4
  go_wp2_with fail
  refine (nodes_any 1 _ 1 _ (leaf _ _ _ _ _ _) (by omega)).mono ?_
  rintro e w1 ⟨rfl, hb1⟩
  go_wp2_with fail
  go_loopw [9] (fun i wr => ∃ j : Nat, j ≤ cnt ∧ i = .int .i64 j ∧ Inv w w.heap.size a1 a2 j wr) (fun i _ => cnt - (intOf i).toNat)
  case atStart =>
    exact ⟨0, Nat.zero_le _, rfl, none, 0, by rw [hb1.block _ (by simp)]; exact heap_alloc_new _ _, World.ownsRow_nil _ _ _ _, ((Below.refl _ _).alloc (Nat.le_refl _) _).trans (hb1.mono (by simp))⟩
  case round =>
    obtain ⟨j, hj, rfl, ao, cap, hB, hown, hbel⟩ := hrel
    have c0 : wr.cell? ⟨w.heap.size, 0, none⟩ = some (.string a1) := by rw [cell_of_row _ _ _ _ _ _ hB]; rfl
    have c1 : wr.cell? ⟨w.heap.size, 1, none⟩ = some (.int .i64 a2) := by rw [cell_of_row _ _ _ _ _ _ hB]; rfl
    have c2 : wr.cell? ⟨w.heap.size, 2, none⟩ = some (.slice ao j cap) := by rw [cell_of_row _ _ _ _ _ _ hB]; rfl
    have hsz := lt_of_block hB
    have HB : Hid _ := hB
    have HC : Hid _ := hcnt
    clear hB hcnt
    by_cases hjc : j < cnt
    · go_wp2_with (at_builtin; refine wpList_append_lies _ rfl _ _ _ rfl (w.heap.size + 1) 27 i0 _ 3 48 Yba.underlying25 hi hz0 hz1 hz2 rfl (by omega) _ j _ rfl (hown.alloc _) ⟨wr.heap.size, 0, none⟩ 1 1 [.string a1, .int .i64 a2, .slice none 0 0] rfl rfl ?c1 ?c2 (by omega) ?c3 (by omega) ?c4 (wr.heap.size + 1) ?c5 ?_)
      case c1 => exact new3 _ _ _ _ _
      case c2 => intro u hu; simp at hu; rcases hu with rfl | rfl | rfl <;> rfl
      case c3 => unfold maxLen; omega
      case c4 => simp; omega
      case c5 => simp
      intro g cap' w2 hown2 hgrow hat hlt2
      obtain ⟨hB2, hinv⟩ := inv_step (Nat.le_refl _) HB.out hown hbel hown2 hgrow
      have f2 : w2.frozen? ⟨w.heap.size, 2, none⟩ = false := frozen_of_row _ _ _ _ _ hB2
      have c2' : w2.cell? ⟨w.heap.size, 2, none⟩ = some (.slice ao j cap) := by rw [cell_of_row _ _ _ _ _ _ hB2]; rfl
      clear hown hown2 hgrow hB2 c0 c1 c2
      go_wp2_with fail
      go_roundw
      case rel => exact ⟨j + 1, by omega, by go_num, hinv⟩
      case measure => simp [intOf]; omega
    · obtain rfl : j = cnt := by omega
      go_wp2_with fail
      refine (nodes_any 2 _ (1 + j) _ (row_tree _ _ _ _ _ (by omega) hown) (by omega)).mono ?_
      rintro e w2 ⟨rfl, hb2⟩
      go_wp2_with fail
      go_ret
      exact ⟨ret_bool (by simp; omega), hbel.trans (hb2.mono (by omega))⟩

end Go.Proofs.Ybulkmvg.Flat
