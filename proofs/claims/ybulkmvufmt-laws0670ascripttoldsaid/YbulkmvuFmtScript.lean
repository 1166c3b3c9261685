/-
  'LawS0670AScript' walked.
-/
import Derived.Test.YbulkmvuFmtGreat
import Derived.Test.YbulkmvuFmtAfter4
import Derived.Test.YbulkmvuFmtAfter7
namespace Go.Proofs.YbulkmvuFmt
open Go.RowKit Go.Extern.Stop Go.Stop Go.Extern
set_option linter.unusedVariables false

set_option maxHeartbeats 4000000 in
set_option maxRecDepth 100000 in
theorem script_big (a0 : Option Addr) (n c : Nat) (w : World) (hn : 512 < n) :
    Calls Ybaf.prog 4 #[.slice a0 n c] w fun e w' => e = .returned (.bool true) ∧ Below w.heap.size w w' := by
  go_enter Ybaf.func4, Ybaf.ntmps4
  go_wp2_with fail
  go_ret
  exact ⟨rfl, Below.refl _ _⟩

theorem sst_start {w w2 : World} (m : Nat) (hb : Below w.heap.size w w2) (hs : w.heap.size + 1 ≤ w2.heap.size) (hx : w2.heap[w.heap.size]? = some (.cells (fresh false) 29 (0, 0))) :
    SSt w ((w2.drewN m).setCell ⟨w.heap.size, 3, none⟩ (.bool true)) 0 (fun _ => []) (fun _ => nilS) (fun _ => 0) (fun _ => []) := by
  refine ⟨fun t => ⟨⟨by simp, Or.inl ⟨rfl, rfl⟩⟩, fun g hg => by simp [Value.ownBlock] at hg⟩, heap_setCell_same (w2.drewN m) _ 3 _ 29 _ hx, (below_drewN hb m).trans ⟨rfl, rfl, rfl, by simp [World.setCell], fun q hq => heap_setCell_other _ _ _ _ (by simp; omega)⟩, by simp [World.setCell]; exact hs, ?_⟩
  refine ⟨0, fun _ => 0, fun _ _ => 0, fun _ _ _ => 0, fun _ => ⟨#[]⟩, 0, ?_, ?_, ?_, Nat.le_refl _, fun _ => Nat.le_refl _, fun _ _ => Nat.le_refl _, fun _ _ _ => Nat.le_refl _, Nat.le_refl _⟩
  · exact ⟨rfl, fun i hi => absurd hi (by omega), fun i => ⟨rfl, fun j hj => absurd hj (Nat.not_lt_zero _)⟩, fun i j => ⟨rfl, fun k hk => absurd hk (Nat.not_lt_zero _)⟩, fun _ _ _ => rfl, fun _ _ => ⟨rfl, rfl⟩, fun _ _ _ => ⟨rfl, rfl⟩, fun _ _ _ _ => ⟨rfl, rfl⟩⟩
  · exact ⟨rfl, fun i hi => absurd hi (by omega), fun i => ⟨rfl, fun j hj => absurd hj (Nat.not_lt_zero _)⟩, fun i j => ⟨rfl, fun k hk => absurd hk (Nat.not_lt_zero _)⟩, rfl, fun i hi => absurd hi (by omega), fun _ _ => ⟨rfl, rfl⟩, fun _ _ _ => ⟨rfl, rfl⟩⟩
  · exact ⟨rfl, rfl, rfl, rfl, rfl, rfl, fun i hi => absurd hi (by omega)⟩

set_option maxHeartbeats 4000000 in
set_option maxRecDepth 1000000 in
theorem script_any (F : Interp) (a0 : Option Addr) (n c : Nat) (f : Nat → St3) (w : World) (hF : F.answers w.tape) (hP : Pow w) (hBr : Bru w) (hn : n ≤ 512) (hin : StepsAt w a0 n f) :
    Calls Ybaf.prog 4 #[.slice a0 n c] w fun e w' => e = .returned (.bool true) ∧ Below w.heap.size w w' := by
  have HI := hide hin
  have HP := hide hP
  have HBR := hide hBr
  have HF := hide hF
  clear hin hP hBr hF
  go_enter Ybaf.func4, Ybaf.ntmps4
  go_wp2_with fail
  generalize hw1 : w.alloc _ = w1
  have hb1 : Below w.heap.size w w1 := by rw [← hw1]; exact (Below.refl _ _).alloc (Nat.le_refl _) _
  have hs1 : w1.heap.size = w.heap.size + 1 := by rw [← hw1]; simp
  have hx1 : w1.heap[w.heap.size]? = some (.cells (fresh false) 29 (0, 0)) := by rw [← hw1]; exact heap_alloc_new w _
  have HB1 := hide hb1
  have HX1 := hide hx1
  clear hw1 hb1 hx1
  generalize hw2 : w1.alloc _ = w2
  have hb2 : Below w.heap.size w w2 := by rw [← hw2]; exact HB1.out.alloc HB1.out.size _
  have hs2 : w2.heap.size = w.heap.size + 2 := by rw [← hw2]; simp; omega
  have hx2 : w2.heap[w.heap.size]? = some (.cells (fresh false) 29 (0, 0)) := by rw [← hw2, Below.heap_alloc _ _ _ (by omega)]; exact HX1.out
  have c0 : w2.cell? ⟨w.heap.size + 1, 0, none⟩ = some (.string ⟨#[112, 97, 103, 101, 119, 114, 105, 103, 104, 116, 45, 116, 114, 97, 99, 101]⟩) := by rw [← hw2, ← hs1]; exact (boxed_cell2 w1 _ _ 9).1
  have c1 : w2.cell? ⟨w.heap.size + 1, 0 + 1, none⟩ = some (.string ⟨#[49]⟩) := by rw [← hw2, ← hs1]; exact (boxed_cell2 w1 _ _ 9).2
  refine (parse_ok w2 w.heap.size (w.heap.size + 1) 0 2 (by omega) (fresh3 hx2) (frozen_of_row _ _ _ _ _ hx2) c0 c1).mono ?_
  rintro e w3 ⟨rfl, m, hw3⟩
  have hst := sst_start m hb2 (by omega) hx2
  rw [← hw3] at hst
  have HST := hide hst
  have g3 : w3.cell? ⟨w.heap.size, 3, none⟩ = some (.bool true) := by rw [cell_of_row _ _ _ _ _ _ hst.2.1]; rfl
  clear hw2 hb2 hs2 hx2 c0 c1 hw3 hst HB1 HX1 hs1
  go_wp2_with fail
  clear g3
  refine wp_code_eq (c' := .loop ((Ybaf.f4.body.bind firstLoop).getD .skip)) (by kernel_rfl) ?_
  refine to_frame (a0 := a0) (n := n) (c := c) (B := w.heap.size) (Φ := fun a => (Code.loop ((Ybaf.f4.body.bind firstLoop).getD .skip)).wp Ybaf.prog _ a _) ?_ (great F a0 n c f _ w w3 _ HF.out HP.out HBR.out hn HI.out ⟨Nat.zero_le _, rfl, _, _, _, _, rfl, rfl, rfl, rfl, HST.out⟩ ?_)
  · kernel_rfl
  intro v wr own V C X hs hv
  obtain ⟨R, hB, hbel, hlo, nk, nc, nw, ni, nm, na, ps, ms, al, b1, b2, b3, b4, b5⟩ := hs
  have HSL := hide hv
  obtain ⟨s3, s4, s5, s6, s7⟩ := hv
  obtain ⟨x4, y4, e4⟩ := R.val [4]
  obtain ⟨x0, y0, e0⟩ := R.val [0]
  obtain ⟨x8, y8, e8⟩ := R.val [8]
  obtain ⟨x9, y9, e9⟩ := R.val [9]
  obtain ⟨x10, y10, e10⟩ := R.val [10]
  obtain ⟨x11, y11, e11⟩ := R.val [11]
  rw [ms.1] at e4
  rw [ps.1] at e0
  rw [al.1] at e8
  rw [al.2.1] at e9
  rw [al.2.2.1] at e10
  rw [al.2.2.2.1] at e11
  have z1 : wr.cell? ⟨w.heap.size, 1, none⟩ = some (V [0]) := (cell_of_row wr _ _ _ _ _ hB).trans rfl
  have z0 : wr.cell? ⟨w.heap.size, 0, none⟩ = some (V [8]) := (cell_of_row wr _ _ _ _ _ hB).trans rfl
  have z4 : wr.cell? ⟨w.heap.size, 4, none⟩ = some (V [9]) := (cell_of_row wr _ _ _ _ _ hB).trans rfl
  rw [e0] at z1
  rw [e8] at z0
  rw [e9] at z4
  have hnk : (nk : Int) ≤ 512 := by omega
  have hna : (na : Int) ≤ 512 := by omega
  rw [e4] at s4
  have HR := hide R
  have HPB := hide hB
  have HSH := hide (And.intro ps (And.intro ms al))
  have HBD := hide (And.intro b2 (And.intro b3 b4))
  have HBE := hide hbel
  have HE := hide (And.intro e4 (And.intro e10 e11))
  have HZ := hide (And.intro z0 z4)
  unfold frame2
  rw [s3, s4, s5, s6, s7]
  clear R hB ps ms al b2 b3 b4 hbel e4 e0 e8 e9 e10 e11 s3 s4 s5 s6 s7 z0 z4 HST HSL
  go_wp2_with fail
  clear z1
  refine wp_code_eq (c' := .loop (((Ybaf.f4.body.map loops).getD []).getD 3 .skip)) (by kernel_rfl) ?_
  refine to_frame2 (Φ := fun a => (Code.loop (((Ybaf.f4.body.map loops).getD []).getD 3 .skip)).wp Ybaf.prog _ a _) ?_ (loop4 wr own w.heap.size (w.heap.size + 1) V C X nk nc nw ni nm _ _ _ HR.out HPB.out (by omega) HSH.out.1 HSH.out.2.1 (by omega) (fun i => by have := HBD.out.1 i; omega) (fun i j => by have := HBD.out.2.1 i j; omega) (fun i j p => by have := HBD.out.2.2 i j p; omega) ⟨Nat.zero_le _, Below.refl _ _, rfl, rfl, HE.out.1.symm, rfl, rfl, rfl⟩ ?_)
  · kernel_rfl
  intro v w4 hw4 hv
  obtain ⟨s3, s4, s5, s6, s7⟩ := hv
  rw [HE.out.2.1] at s6
  rw [HE.out.2.2] at s7
  have z0 := cell_below hw4 (show w.heap.size < wr.heap.size by omega) HZ.out.1
  have z4 := cell_below hw4 (show w.heap.size < wr.heap.size by omega) HZ.out.2
  have HW4 := hide hw4
  unfold frame2
  rw [s3, s4, s5, s6, s7]
  clear s3 s4 s5 s6 s7 hw4
  go_wp2_with fail
  clear z0 z4
  refine wp_code_eq (c' := .loop (((Ybaf.f4.body.map loops).getD []).getD 6 .skip)) (by kernel_rfl) ?_
  refine to_frame2 (Φ := fun a => (Code.loop (((Ybaf.f4.body.map loops).getD []).getD 6 .skip)).wp Ybaf.prog _ a _) ?_ (loop7 wr own w.heap.size (w.heap.size + 1) V C X na _ _ _ HR.out HPB.out (by omega) HSH.out.2.2 (by omega) ⟨Nat.zero_le _, HW4.out, rfl, rfl, rfl, rfl, HE.out.2.1.symm, HE.out.2.2.symm⟩ ?_)
  · kernel_rfl
  intro v w5 hw5
  have HW5 := hide hw5
  clear hw5
  unfold frame2
  go_wp2_with fail
  go_ret
  exact ⟨rfl, HBE.out.trans (HW5.out.mono (by omega))⟩
end Go.Proofs.YbulkmvuFmt
