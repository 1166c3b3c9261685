/-
  'parse' behind the header: kernel lines.
-/
import Derived.Test.YbulkmvuFmtInst
import Derived.Test.YbulkmvuFmtLast
namespace Go.Proofs.YbulkmvuFmt
open Go.RowKit Go.Extern.Stop Go.Stop Go.Extern

theorem info56 : (Ybaf.prog.info? 56).map (fun i => (i.zero, i.size, i.bytes)) = some (some (.agg #[.string ⟨#[]⟩, .slice none 0 0]), 2, 40) := by kernel_rfl

/-- The parser's box. -/
def PBx (w : World) (B : Nat) (V : List Nat → Value) : Prop := w.heap[B]? = some (.cells #[V [8], V [0], .int .i64 4, .bool true, V [9]] 29 (0, 0))

/-- What is kept: whatever lies below lo, but for the box B. -/
def Kp (B lo : Nat) (w w' : World) : Prop := w'.os = w.os ∧ w'.tape = w.tape ∧ w'.output = w.output ∧ w.heap.size ≤ w'.heap.size ∧ ∀ q, q < lo → q ≠ B → w'.heap[q]? = w.heap[q]?

theorem Kp.trans {B lo : Nat} {a b c : World} (h : Kp B lo a b) (k : Kp B lo b c) : Kp B lo a c :=
  ⟨k.1.trans h.1, k.2.1.trans h.2.1, k.2.2.1.trans h.2.2.1, Nat.le_trans h.2.2.2.1 k.2.2.2.1, fun q hq hB => (k.2.2.2.2 q hq hB).trans (h.2.2.2.2 q hq hB)⟩
theorem Kp.of_below {B lo : Nat} {a b : World} (h : Below lo a b) (hs : a.heap.size ≤ b.heap.size) : Kp B lo a b := ⟨h.os, h.tape, h.output, hs, fun q hq _ => h.block q hq⟩
theorem Kp.of_set {B lo : Nat} (a : World) (j : Nat) (v : Value) : Kp B lo a (a.setCell ⟨B, j, none⟩ v) := ⟨rfl, rfl, rfl, by simp [World.setCell], fun q _ hB => heap_setCell_other _ _ _ _ (by simpa using hB)⟩

theorem Rws.box {w : World} {own : Nat → List Nat} {lo : Nat} {V : List Nat → Value} {C : List Nat → Nat} {X : List Nat → List Value} (h : Rws w own lo V C X) {B : Nat} (hBl : B < lo) (j : Nat) (v : Value) : Rws (w.setCell ⟨B, j, none⟩ v) own lo V C X :=
  h.keep fun q hq _ => heap_setCell_other _ _ _ _ (by simp; omega)

set_option maxHeartbeats 4000000 in
set_option maxRecDepth 100000 in
theorem parse_kernel (w : World) (own : Nat → List Nat) (lo B b c : Nat) (V : List Nat → Value) (C : List Nat → Nat) (X : List Nat → List Value) (name : ByteArray) (line : Int) (R : Rws w own lo V C X) (hB : PBx w B V) (hBl : B < lo) (hlo : lo ≤ w.heap.size) (hC : C [0] ≤ 2000) (hc : 2 ≤ c)
    (hk : w.cell? ⟨b, 0, none⟩ = some (.string ⟨#[107, 101, 114, 110, 101, 108]⟩)) (hn : w.cell? ⟨b, 1, none⟩ = some (.string name)) :
    Calls Ybaf.prog 5 #[.pointer (some ⟨B, 0, none⟩), .slice (some ⟨b, 0, none⟩) 2 c, .int .i64 line] w fun e w' => e = .returned .nilIface ∧ Kp B lo w w' ∧ ∃ own' v', Rws w' own' lo (upd V [0] v') (upd C [0] (C [0] + 1)) (upd X [0] (X [0] ++ [.string name, .slice none 0 0])) ∧ PBx w' B (upd V [0] v') := by
  obtain ⟨i56, hi, hz0, hz1, hz2⟩ := info_parts info56
  have hc1 : ¬ c = 1 := by omega
  have hp2 : (1 : Int) ≤ (c : Int) := by omega
  have h3 : w.cell? ⟨B, 3, none⟩ = some (.bool true) := by rw [cell_of_row _ _ _ _ _ _ hB]; rfl
  have RR := hide R
  have HB := hide hB
  clear R hB
  go_enter Ybaf.func5, Ybaf.ntmps5
  go_wp2_with fail
  go_quiet (fail)
  generalize hw1 : w.drewN nq = w1
  have hb1 : Below w.heap.size w w1 := by rw [← hw1]; exact below_drewN (Below.refl _ _) _
  have hs1 : w1.heap.size = w.heap.size := by rw [← hw1]; rfl
  have g3 : w1.cell? ⟨B, 3, none⟩ = some (.bool true) := by rw [← hw1]; exact h3
  have gn : w1.drew.cell? ⟨b, 1, none⟩ = some (.string name) := by rw [← hw1]; exact hn
  have gB : w1.heap[B]? = some (.cells #[V [8], V [0], .int .i64 4, .bool true, V [9]] 29 (0, 0)) := by rw [← hw1]; exact HB.out
  have g1 : w1.drew.cell? ⟨B, 1, none⟩ = some (V [0]) := by rw [show w1.drew.cell? ⟨B, 1, none⟩ = w1.cell? ⟨B, 1, none⟩ from rfl, cell_of_row _ _ _ _ _ _ gB]; rfl
  have R1 : Hid (Rws w1 own lo V C X) := hide (RR.out.below hb1)
  have HB1 := hide hb1
  have HGB := hide gB
  clear hw1 hb1 h3 hk hn gB
  go_wp2_with fail
  have hlw : lo ≤ w1.heap.size := by omega
  have R2 : Hid (Rws (w1.alloc (.cells #[.string name, .slice none 0 0] 56)).drew own lo V C X) := hide (R1.out.below ((Below.refl _ _).alloc (Nat.le_refl _) _).drew)
  have HNW : Hid (∀ j u, [Value.string name, .slice none 0 0][j]? = some u → (w1.alloc (.cells #[.string name, .slice none 0 0] 56)).drew.cell? ((⟨w1.heap.size, 0, none⟩ : Addr).add j) = some u) := hide (cell_two_new w1 _ _ 56)
  have g1' : (w1.alloc (.cells #[.string name, .slice none 0 0] 56)).cell? ⟨B, 1, none⟩ = some (V [0]) := (World.cell?_of_block (w := w1) (Below.heap_alloc _ _ _ (by show B < w1.heap.size; omega))).trans g1
  go_region_law (refine step_append_rws rfl (.tmp 110) (.tmp 115) 24 rfl [0] i56 _ 40 Ybaf.underlying24 hi hz0 hz1 hz2 rfl (by decide) (by simp [Act.eval]) R2.out ⟨w1.heap.size, 0, none⟩ 1 [.string name, .slice none 0 0] (by simp [Act.eval]) rfl HNW.out (by intro u hu; simp at hu; rcases hu with rfl | rfl <;> rfl) hC (by omega) (by simp; omega) ?_; intro v' w2 own' R3 hb3 hs3 hv3; have HR3 := hide R3; have HB3 := hide hb3; obtain ⟨g, cap, rfl⟩ := hv3; have e2 : w2.heap[B]? = some (.cells #[V [8], V [0], .int .i64 4, .bool true, V [9]] 29 (0, 0)) := (hb3.block B hBl).trans ((Below.heap_alloc _ _ _ (by show B < w1.heap.size; omega)).trans HGB.out); have e3 : w2.cell? ⟨B, 1, none⟩ = some (V [0]) := (by rw [cell_of_row _ _ _ _ _ _ e2]; rfl); have e4 : w2.frozen? ⟨B, 1, none⟩ = false := frozen_of_row _ _ _ _ _ e2; have HE2 := hide e2; clear R3 hb3 e2)
  all_goals (
    have f1 : Kp B lo w (w2.setCell ⟨B, 1, none⟩ (.slice (some ⟨g, 0, none⟩) (C [0] + 1) cap)) := ((Kp.of_below (HB1.out.mono hlo) (by omega)).trans (Kp.of_below (((Below.refl lo w1).alloc hlw _).drew.trans HB3.out) (by have := hs3; simp at this; omega))).trans (Kp.of_set _ _ _)
    have f2 := HR3.out.box hBl 1 (.slice (some ⟨g, 0, none⟩) (C [0] + 1) cap)
    have f3 : PBx (w2.setCell ⟨B, 1, none⟩ (.slice (some ⟨g, 0, none⟩) (C [0] + 1) cap)) B (upd V [0] (.slice (some ⟨g, 0, none⟩) (C [0] + 1) cap)) := heap_setCell_same w2 B 1 _ 29 _ HE2.out
    have HF := hide (And.intro f1 (And.intro f2 f3))
    clear f1 f2 f3 e3 e4 g1' gn g1 g3
    go_wp2_with fail
    go_ret
    exact ⟨rfl, HF.out.1, own', _, HF.out.2.1, HF.out.2.2⟩)
end Go.Proofs.YbulkmvuFmt
