/-
  What the arguments of a line are read as.
-/
import Derived.Test.YbulkmvuFmtErr
import Derived.Test.YbulkmvuFmtBits
namespace Go.Proofs.YbulkmvuFmt
open Go.RowKit Go.Extern.Stop Go.Stop Go.Extern

theorem exit_letter {K : Act → World → Prop} {Q' : Exit → Act → World → Prop} {a : Act} {w : World} (F : World → Prop) (hF : F w) (h : ∀ w', F w' → Exit.then K Q' .normal a w') : Exit.then K Q' .normal a w := h w hF
theorem wpList_letter {P : Program} {ops : Array Oper} {rest : List Oper} {a : Act} {w : World} {Q : Exit → Act → World → Prop} (F : World → Prop) (hF : F w) (h : ∀ w', F w' → wpList P ops Q rest a w') : wpList P ops Q rest a w := h w hF

/-- A new box of two cells is filled. -/
theorem box2 {w w4 : World} {u0 u1 : Value} {t : TypeId} {x y : Value} (hb : Below w.heap.size w w4) (h : w4.heap[w.heap.size]? = some (.cells #[x, y] t (0, 0))) :
    Below w.heap.size w ((w4.setCell ⟨w.heap.size, 0, none⟩ u0).setCell ⟨w.heap.size, 1, none⟩ u1) ∧ ((w4.setCell ⟨w.heap.size, 0, none⟩ u0).setCell ⟨w.heap.size, 1, none⟩ u1).heap[w.heap.size]? = some (.cells #[u0, u1] t (0, 0)) := by
  refine ⟨hb.trans ⟨rfl, rfl, rfl, by simp [World.setCell], fun q hq => ?_⟩, ?_⟩
  · rw [heap_setCell_other _ _ _ _ (by simp; omega), heap_setCell_other _ _ _ _ (by simp; omega)]
  · rw [heap_setCell_same _ _ _ _ _ _ (heap_setCell_same w4 _ _ _ _ _ h)]
    rfl

theorem boxed_cell4 (w : World) (v0 v1 v2 v3 : Value) (t : TypeId) : (w.alloc (.cells #[v0, v1, v2, v3] t)).cell? ⟨w.heap.size, 0, none⟩ = some v0 ∧ (w.alloc (.cells #[v0, v1, v2, v3] t)).cell? ⟨w.heap.size, 1, none⟩ = some v1 ∧ (w.alloc (.cells #[v0, v1, v2, v3] t)).cell? ⟨w.heap.size, 2, none⟩ = some v2 ∧ (w.alloc (.cells #[v0, v1, v2, v3] t)).cell? ⟨w.heap.size, 3, none⟩ = some v3 := by
  simp

theorem boxed_cell3 (w : World) (v0 v1 v2 : Value) (t : TypeId) : (w.alloc (.cells #[v0, v1, v2] t)).cell? ⟨w.heap.size, 0, none⟩ = some v0 ∧ (w.alloc (.cells #[v0, v1, v2] t)).cell? ⟨w.heap.size, 1, none⟩ = some v1 ∧ (w.alloc (.cells #[v0, v1, v2] t)).cell? ⟨w.heap.size, 2, none⟩ = some v2 := by
  simp

theorem index_ok (kind : ByteArray) (b off c V : Nat) (l : List UInt8) (w : World) (hV : V ≤ 2000) (hN : Num 10 V l) (ha : w.cell? ⟨b, off, none⟩ = some (.string ⟨l.toArray⟩)) :
    Calls Ybaf.prog 13 #[.string kind, .slice (some ⟨b, off, none⟩) 1 c, .int .i64 V] w fun e w' => e = .returned .nilIface ∧ Below w.heap.size w w' := by
  have hd := decimal_of_num l V w hN (by omega)
  have HD := hide hd
  clear hd
  go_enter Ybaf.func13, Ybaf.ntmps13
  go_wp2_with (go_at_call 22; refine HD.out.mono ?_; rintro e w' ⟨rfl, hb⟩; have HB := hide hb; clear hb)
  go_ret
  exact ⟨rfl, HB.out⟩

theorem index_bad (F : Interp) (kind : ByteArray) (b off c V want : Nat) (l : List UInt8) (w : World) (hF : F.answers w.tape) (hV : V ≤ 2000) (hne : V ≠ want) (hN : Num 10 V l) (ha : w.cell? ⟨b, off, none⟩ = some (.string ⟨l.toArray⟩)) :
    Calls Ybaf.prog 13 #[.string kind, .slice (some ⟨b, off, none⟩) 1 c, .int .i64 want] w fun e w' => (∃ a, e = .returned (.iface 75 (.pointer (some a)))) ∧ Below w.heap.size w w' := by
  have hd := decimal_of_num l V w hN (by omega)
  have HD := hide hd
  have hnei : ¬ (V : Int) = (want : Int) := by omega
  clear hd
  go_enter Ybaf.func13, Ybaf.ntmps13
  go_wp2_with (go_at_call 22; refine HD.out.mono ?_; rintro e w1 ⟨rfl, hb⟩; have HB := hide hb; clear hb)
  refine (err_sdsd F _ _ _ _ _ w1.heap.size _ (by show F.answers w1.tape; rw [HB.out.tape]; exact hF) (fun w => by kernel_rfl) (boxed_cell4 w1 _ _ _ _ 20).1 (boxed_cell4 w1 _ _ _ _ 20).2.1 (boxed_cell4 w1 _ _ _ _ 20).2.2.1 (boxed_cell4 w1 _ _ _ _ 20).2.2.2).mono ?_
  rintro e wx ⟨⟨a, rfl⟩, hbx⟩
  have HBX : Hid (Below w.heap.size w wx) := hide (below_boxed HB.out _ wx hbx)
  clear hbx
  go_wp2_with fail
  go_ret
  exact ⟨⟨_, rfl⟩, HBX.out⟩

theorem alloc_ok (A N : Int) (w : World) (h0 : 0 ≤ A) (h1 : A ≤ 18446744073709551615) (h2 : 0 < N) (h3 : N ≤ 18446744073709551615 - A) :
    Calls Ybaf.prog 21 #[.agg #[.int .u64 A, .int .u64 N]] w fun e w' => e = .returned .nilIface ∧ Below w.heap.size w w' := by
  have hn0 : ¬ N = 0 := by omega
  have hn1 : ¬ 18446744073709551615 - A < N := by omega
  go_enter Ybaf.func21, Ybaf.ntmps21
  go_wp2_with fail
  go_ret
  exact ⟨rfl, (Below.refl _ _).alloc (Nat.le_refl _) _⟩

theorem alloc_zero (F : Interp) (A : Int) (w : World) (hF : F.answers w.tape) :
    Calls Ybaf.prog 21 #[.agg #[.int .u64 A, .int .u64 0]] w fun e w' => (∃ a, e = .returned (.iface 75 (.pointer (some a)))) ∧ Below w.heap.size w w' := by
  go_enter Ybaf.func21, Ybaf.ntmps21
  go_wp2_with fail
  generalize hw1 : w.alloc _ = w1
  have hb1 : Below w.heap.size w w1 := by rw [← hw1]; exact (Below.refl _ _).alloc (Nat.le_refl _) _
  have hs1 : w1.heap.size = w.heap.size + 1 := by rw [← hw1]; simp
  have HB1 := hide hb1
  clear hw1 hb1
  refine (err_x F _ A (w.heap.size + 1) _ (by show F.answers w1.tape; rw [HB1.out.tape]; exact hF) (fun w => by kernel_rfl) (by rw [← hs1]; exact boxed_cell w1 _ 20)).mono ?_
  rintro e wx ⟨⟨a, rfl⟩, hbx⟩
  have HBX : Hid (Below w.heap.size w wx) := hide (below_boxed HB1.out _ wx hbx)
  clear hbx
  go_wp2_with fail
  go_ret
  exact ⟨⟨_, rfl⟩, HBX.out⟩

theorem alloc_big (F : Interp) (A N : Int) (w : World) (hF : F.answers w.tape) (h0 : 0 ≤ A) (h1 : A ≤ 18446744073709551615) (h2 : 0 < N) (h3 : 18446744073709551615 - A < N) :
    Calls Ybaf.prog 21 #[.agg #[.int .u64 A, .int .u64 N]] w fun e w' => (∃ a, e = .returned (.iface 75 (.pointer (some a)))) ∧ Below w.heap.size w w' := by
  have hn0 : ¬ N = 0 := by omega
  go_enter Ybaf.func21, Ybaf.ntmps21
  go_wp2_with fail
  generalize hw1 : w.alloc _ = w1
  have hb1 : Below w.heap.size w w1 := by rw [← hw1]; exact (Below.refl _ _).alloc (Nat.le_refl _) _
  have hs1 : w1.heap.size = w.heap.size + 1 := by rw [← hw1]; simp
  have HB1 := hide hb1
  clear hw1 hb1
  refine (err_dx F _ N A (w.heap.size + 1) _ (by show F.answers w1.tape; rw [HB1.out.tape]; exact hF) (fun w => by kernel_rfl) (by rw [← hs1]; exact (boxed_cell2 w1 _ _ 20).1) (by rw [← hs1]; exact (boxed_cell2 w1 _ _ 20).2)).mono ?_
  rintro e wx ⟨⟨a, rfl⟩, hbx⟩
  have HBX : Hid (Below w.heap.size w wx) := hide (below_boxed HB1.out _ wx hbx)
  clear hbx
  go_wp2_with fail
  go_ret
  exact ⟨⟨_, rfl⟩, HBX.out⟩

set_option maxHeartbeats 1000000 in
theorem alloc_line (G : Value → Prop) (A N b off c : Nat) (l l2 : List UInt8) (w : World) (hA : A ≤ 18446744073709551615) (hN : N ≤ 255) (n1 : Num 16 A l) (n2 : Num 10 N l2) (ha : w.cell? ⟨b, off, none⟩ = some (.string ⟨(48 :: 120 :: l).toArray⟩)) (hb : w.cell? ⟨b, off + 1, none⟩ = some (.string ⟨l2.toArray⟩))
    (hc : ∀ W : World, W.tape = w.tape → Calls Ybaf.prog 21 #[.agg #[.int .u64 A, .int .u64 N]] W fun e w' => (∃ v, e = .returned v ∧ G v) ∧ Below W.heap.size W w') :
    Calls Ybaf.prog 11 #[.slice (some ⟨b, off, none⟩) 2 c] w fun e w' => (∃ v, e = .returned (.tuple #[.agg #[.int .u64 A, .int .u64 N], v]) ∧ G v) ∧ Below w.heap.size w w' := by
  have hbl := World.block_lt_of_cell? _ _ ha
  have HA := hide ha
  have HB := hide hb
  go_enter Ybaf.func11, Ybaf.ntmps11
  go_wp2_with (first
    | (go_at_call 19; refine (address_of_num l A _ n1 hA).mono ?_; rintro e w1 ⟨rfl, hb1⟩; have HB1 : Hid (Below w.heap.size w w1) := hide (((Below.refl _ _).alloc (Nat.le_refl _) _).trans (hb1.mono (by simp))); have HX1 : Hid (w1.heap[w.heap.size]? = some (.cells #[.int .u64 0, .int .u64 0] 44 (0, 0))) := hide ((hb1.block _ (by simp)).trans (heap_alloc_new w _)); have gb : w1.cell? ⟨b, off + 1, none⟩ = some (.string ⟨l2.toArray⟩) := (HB1.out.cell hbl).trans HB.out; clear hb1 ha hb)
    | (go_at_call 20; refine (uint_of_num l2 N w1 n2 (by omega)).mono ?_; rintro e w2 ⟨rfl, hb2⟩; have HB2 : Hid (Below w.heap.size w w2) := hide (HB1.out.trans (hb2.mono HB1.out.size)); have HX2 : Hid (w2.heap[w.heap.size]? = some (.cells #[.int .u64 0, .int .u64 0] 44 (0, 0))) := hide ((hb2.block _ (lt_of_block HX1.out)).trans HX1.out); clear hb2 gb HX1 HB1)
    | fail)
  generalize hw3 : w2.alloc _ = w3
  have hb3 : Below w.heap.size w w3 := by rw [← hw3]; exact HB2.out.alloc HB2.out.size _
  have hx3 : w3.heap[w.heap.size]? = some (.cells #[.int .u64 0, .int .u64 0] 44 (0, 0)) := by rw [← hw3, Below.heap_alloc _ _ _ (lt_of_block HX2.out)]; exact HX2.out
  have hy3 : w3.heap[w2.heap.size]? = some (.cells #[.int .u64 A, .int .u64 N] 44 (0, 0)) := by rw [← hw3]; exact heap_alloc_new w2 _
  have hl3 := lt_of_block hx3
  have hl4 := lt_of_block hy3
  have y0 : w3.drew.cell? ⟨w2.heap.size, 0, none⟩ = some (.int .u64 A) := by rw [show w3.drew.cell? ⟨w2.heap.size, 0, none⟩ = w3.cell? ⟨w2.heap.size, 0, none⟩ from rfl, cell_of_row _ _ _ _ _ _ hy3]; rfl
  have y1 : w3.drew.cell? ⟨w2.heap.size, 1, none⟩ = some (.int .u64 N) := by rw [show w3.drew.cell? ⟨w2.heap.size, 1, none⟩ = w3.cell? ⟨w2.heap.size, 1, none⟩ from rfl, cell_of_row _ _ _ _ _ _ hy3]; rfl
  have hl5 := lt_of_block HX2.out
  have HB3 := hide hb3
  have HX3 := hide hx3
  have HY3 := hide hy3
  clear hb3 hx3 hy3 hw3 HX2
  have hne : w.heap.size ≠ w2.heap.size := by omega
  go_wp2_with fail
  go_region_with (go_at_call 21; refine (hc w3.drew (by show w3.tape = w.tape; rw [HB3.out.tape])).mono ?_; rintro e w4 ⟨⟨v, rfl, hG⟩, hb4⟩; have HG := hide hG; have HB4 : Hid (Below w3.heap.size w3 w4) := hide ((Below.refl _ _).drew.trans hb4); have z0 : w4.cell? ⟨w2.heap.size, 0, none⟩ = some (.int .u64 A) := (HB4.out.cell hl4).trans y0; have z1 : w4.cell? ⟨w2.heap.size, 1, none⟩ = some (.int .u64 N) := (HB4.out.cell hl4).trans y1; have x4 : w4.heap[w.heap.size]? = some (.cells #[.int .u64 0, .int .u64 0] 44 (0, 0)) := (HB4.out.block _ hl3).trans HX3.out; have x0 : w4.cell? ⟨w.heap.size, 0, none⟩ = some (.int .u64 0) := (by rw [cell_of_row _ _ _ _ _ _ x4]; rfl); have x1 : w4.cell? ⟨w.heap.size, 1, none⟩ = some (.int .u64 0) := (by rw [cell_of_row _ _ _ _ _ _ x4]; rfl); have xf : ∀ r, w4.frozen? ⟨w.heap.size, r, none⟩ = false := fun r => frozen_of_row _ _ _ _ _ x4; have HX4 := hide x4; clear hG hb4 x4)
  all_goals (
    have hbx := box2 (u0 := .int .u64 A) (u1 := .int .u64 N) (HB3.out.trans (HB4.out.mono HB3.out.size)) HX4.out
    refine exit_letter (fun w5 => Below w.heap.size w w5 ∧ w5.heap[w.heap.size]? = some (.cells #[.int .u64 A, .int .u64 N] 44 (0, 0))) hbx ?_
    rintro w5 ⟨q1, q2⟩
    have r0 : w5.cell? ⟨w.heap.size, 0, none⟩ = some (.int .u64 A) := by rw [cell_of_row _ _ _ _ _ _ q2]; rfl
    have r1 : w5.cell? ⟨w.heap.size, 1, none⟩ = some (.int .u64 N) := by rw [cell_of_row _ _ _ _ _ _ q2]; rfl
    have HQ := hide q1
    clear hbx q1 q2 x0 x1 xf z0 z1 y0 y1
    go_wp2_with fail
    refine bodyPost_ret (v := .tuple #[.agg #[.int .u64 A, .int .u64 N], v]) ?_ rfl ⟨⟨v, rfl, HG.out⟩, HQ.out⟩
    simp [results, Ybaf.results11, go_sem, r0, r1])
end Go.Proofs.YbulkmvuFmt
