/-
  The loop over the kernels.
-/
import Derived.Test.YbulkmvuFmtAfter5
namespace Go.Proofs.YbulkmvuFmt
open Go.RowKit Go.Extern.Stop Go.Stop Go.Extern
set_option linter.unusedVariables false

def L4 (wr : World) (B : Nat) (V : List Nat → Value) (N : Nat) (i : Nat) (v : Nat → Value) (wx : World) : Prop :=
  i ≤ N ∧ Below wr.heap.size wr wx ∧ v 33 = .int .i64 (i : Int) ∧ Sl B V v

set_option maxHeartbeats 4000000 in
set_option maxRecDepth 1000000 in
theorem loop4 (wr : World) (own : Nat → List Nat) (B lo : Nat) (V : List Nat → Value) (C : List Nat → Nat) (X : List Nat → List Value) (nk : Nat) (nc : Nat → Nat) (nw : Nat → Nat → Nat) (ni : Nat → Nat → Nat → Nat) (nm : Nat → ByteArray) (v : Nat → Value) (wx : World) (Q : Exit → Act → World → Prop)
    (R : Rws wr own lo V C X) (hB : PBx wr B V) (hBl : B < wr.heap.size) (ps : PSh nk nc nw ni nm V C X) (ms : MSh nk nc nw ni nm V C X) (b1 : nk ≤ 512) (b2 : ∀ i, nc i ≤ 512) (b3 : ∀ i j, nw i j ≤ 512) (b4 : ∀ i j p, ni i j p ≤ 512) (h0 : L4 wr B V nk 0 v wx)
    (hQ : ∀ v w', Below wr.heap.size wr w' → Sl B V v → Q (.exit 7) ⟨frame2 v, []⟩ w') :
    (Code.loop (((Ybaf.f4.body.map loops).getD []).getD 3 .skip)).wp Ybaf.prog Q ⟨frame2 v, []⟩ wx := by
  obtain ⟨a4, k4, e4⟩ := R.val [4]
  obtain ⟨a7, k7, e7⟩ := R.val [7]
  obtain ⟨a0, k0, e0⟩ := R.val [0]
  rw [ms.1] at e4
  rw [ms.2.2.2.2.1] at e7
  rw [ps.1] at e0
  have zB : wr.cell? ⟨B, 1, none⟩ = some (V [0]) := (cell_of_row wr _ _ _ _ _ hB).trans rfl
  rw [e0] at zB
  have HR := hide R
  have HPS := hide ps
  have HMS := hide ms
  have HQ := hide hQ
  have HB := hide (And.intro b2 (And.intro b3 b4))
  have HE := hide (And.intro e4 (And.intro e7 e0))
  have HZ := hide zB
  clear R ps ms hQ b4 b2 b3 e4 e7 e0 zB hB
  refine wp_loop (fun a wx => ∃ (i : Nat) (v : Nat → Value), a = ⟨frame2 v, []⟩ ∧ L4 wr B V nk i v wx) (muAt 33 nk) ⟨0, v, rfl, h0⟩ ?round
  rintro _ wx ⟨i, v, rfl, hi, hw, e33, s3, s4, s5, s6, s7⟩
  have hM : muAt 33 nk ⟨frame2 v, []⟩ wx = nk - i := muAt_is wx e33
  rw [hM]
  have yB := cell_below hw hBl HZ.out
  rw [HE.out.1] at s4
  rw [HE.out.2.1] at s5
  have HW := hide hw
  clear hM hw
  unfold frame2
  rw [e33, s3, s4, s5, s6, s7]
  clear e33 s3 s4 s5 s6 s7
  conv => arg 2; whnf
  by_cases hic : i < nk
  · have hi1 : (i : Int) < (nk : Int) := by omega
    have hi2 : (i : Int) ≤ 600 := by omega
    have hi3 : (0 : Int) ≤ (i : Int) := by omega
    have hi4 : IntKind.i64.wrap (i : Int) = (i : Int) := IntWalk.i64_in _ (by omega)
    obtain ⟨g4, k4', e4, -, t4, -, -, x4, -⟩ := HR.out.at [4] (by rw [HMS.out.1]; omega)
    obtain ⟨g7, k7', e7, -, t7, -, -, x7, -⟩ := HR.out.at [7] (by rw [HMS.out.2.2.2.2.1]; omega)
    obtain ⟨g0, k0', e0, -, t0, -, -, x0, -⟩ := HR.out.at [0] (by rw [HPS.out.1]; omega)
    rw [HMS.out.1] at e4
    rw [HMS.out.2.2.2.2.1] at e7
    rw [HPS.out.1] at e0
    obtain ⟨rfl, rfl⟩ : a4 = some ⟨g4, 0, none⟩ ∧ k4 = k4' := by
      have := HE.out.1.symm.trans e4
      simp at this
      exact this
    obtain ⟨rfl, rfl⟩ : a7 = some ⟨g7, 0, none⟩ ∧ k7 = k7' := by
      have := HE.out.2.1.symm.trans e7
      simp at this
      exact this
    obtain ⟨rfl, rfl⟩ : a0 = some ⟨g0, 0, none⟩ ∧ k0 = k0' := by
      have := HE.out.2.2.symm.trans e0
      simp at this
      exact this
    obtain ⟨a5, k5, e5⟩ := HR.out.val [5, i]
    obtain ⟨a1, k1, e1⟩ := HR.out.val [1, i]
    rw [(HMS.out.2.2.1 i).1] at e5
    rw [(HPS.out.2.2.1 i).1] at e1
    have z4 := x4 _ _ (HMS.out.2.1 i hic)
    rw [e5] at z4
    have z7 := x7 _ _ (HMS.out.2.2.2.2.2.1 i hic)
    have z0 := cell_below HW.out t0 (x0 _ _ (HPS.out.2.1 i hic).1)
    have z1 := cell_below HW.out t0 (x0 _ _ (HPS.out.2.1 i hic).2)
    rw [e1] at z1
    have bi := HB.out.1 i
    have bi1 : (nc i : Int) ≤ 512 := by omega
    have HX := hide (And.intro z4 (And.intro z7 e1))
    clear x4 x7 x0 e4 e7 e0 e5 z4 z7 e1
    go_wp2_with fail
    generalize hwk : wx.alloc _ = wk
    have hbk : Below wr.heap.size wr wk := by rw [← hwk]; exact HW.out.alloc HW.out.size _
    have c0 : wk.cell? ⟨wx.heap.size, 0, none⟩ = some (.string (nm i)) := by rw [← hwk]; exact (boxed_cell2 wx _ _ 56).1
    have c1 : wk.cell? ⟨wx.heap.size, 1, none⟩ = some (.slice a1 (nc i) k1) := by rw [← hwk]; exact (boxed_cell2 wx _ _ 56).2
    have d4 := cell_below hbk t4 HX.out.1
    have d7 := cell_below hbk t7 HX.out.2.1
    have HBK := hide hbk
    clear hwk hbk z0 z1 yB
    have hn1 : ((nm i).toList == (nm i).toList) = true := by simp
    go_quiet (fail)
    have HC1 : Hid (wk.cell? ⟨wx.heap.size, 1, none⟩ = some (V [1, i])) := hide (c1.trans (congrArg some HX.out.2.2.symm))
    clear c0 c1 d4 d7
    go_wp2_with fail
    refine wp_code_eq (c' := .loop (((Ybaf.f4.body.map loops).getD []).getD 4 .skip)) (by kernel_rfl) ?_
    refine to_frame2 (Φ := fun a => (Code.loop (((Ybaf.f4.body.map loops).getD []).getD 4 .skip)).wp Ybaf.prog _ a _) ?_ (loop5 wr own B wx.heap.size lo V C X nk nc nw ni nm i _ _ _ HR.out HPS.out HMS.out hic b1 HB.out.1 HB.out.2.1 HB.out.2.2 ⟨Nat.zero_le _, ⟨below_drewN HBK.out _, HW.out.size, HC1.out⟩, rfl, rfl, rfl, rfl, ?_, ?_, rfl, rfl⟩ ?_)
    · kernel_rfl
    · exact HE.out.1.symm
    · exact HE.out.2.1.symm
    intro v w' hw' e33 hs
    obtain ⟨s3, s4, s5, s6, s7⟩ := hs
    rw [HE.out.1] at s4
    rw [HE.out.2.1] at s5
    unfold frame2
    rw [e33, s3, s4, s5, s6, s7]
    have HW' := hide hw'
    clear e33 s3 s4 s5 s6 s7 hw'
    go_wp2_with fail
    refine ⟨in_frame2 (i + 1) ?_ ⟨hic, HW'.out.1, ?_, rfl, ?_, ?_, rfl, rfl⟩, muAt_less _ rfl hic⟩
    · kernel_rfl
    · exact congrArg (Value.int .i64) (by omega)
    · exact HE.out.1.symm
    · exact HE.out.2.1.symm
  · have hi1 : ¬ (i : Int) < (nk : Int) := by omega
    go_wp2_with fail
    refine to_frame2 (Φ := fun a => Q (.exit 7) a wx) ?_ (HQ.out _ wx HW.out ⟨rfl, ?_, ?_, rfl, rfl⟩)
    · kernel_rfl
    · exact HE.out.1.symm
    · exact HE.out.2.1.symm
end Go.Proofs.YbulkmvuFmt
