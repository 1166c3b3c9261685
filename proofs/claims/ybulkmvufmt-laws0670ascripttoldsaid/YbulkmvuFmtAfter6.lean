/-
  The loop over a CTA's warps.
-/
import Derived.Test.YbulkmvuFmtAfter
namespace Go.Proofs.YbulkmvuFmt
open Go.RowKit Go.Extern.Stop Go.Stop Go.Extern
set_option linter.unusedVariables false

/-- What a round over warps reads. -/
def W6 (wr : World) (kb : Nat) (V : List Nat → Value) (i : Nat) (wx : World) : Prop := Below wr.heap.size wr wx ∧ wr.heap.size ≤ kb ∧ wx.cell? ⟨kb, 1, none⟩ = some (V [1, i])
theorem W6.draw {wr : World} {kb : Nat} {V : List Nat → Value} {i : Nat} {wx : World} (h : W6 wr kb V i wx) (m : Nat) : W6 wr kb V i (wx.drewN m) := ⟨below_drewN h.1 m, h.2.1, h.2.2⟩

def L6 (wr : World) (B kb : Nat) (V : List Nat → Value) (N i j : Nat) (p : Nat) (v : Nat → Value) (wx : World) : Prop :=
  p ≤ N ∧ W6 wr kb V i wx ∧ v 36 = .int .i64 (p : Int) ∧ v 33 = .int .i64 (i : Int) ∧ v 35 = .int .i64 (j : Int) ∧ v 34 = .pointer (some ⟨kb, 0, none⟩) ∧ Sl B V v

set_option maxHeartbeats 4000000 in
set_option maxRecDepth 1000000 in
theorem loop6 (wr : World) (own : Nat → List Nat) (B kb lo : Nat) (V : List Nat → Value) (C : List Nat → Nat) (X : List Nat → List Value) (nk : Nat) (nc : Nat → Nat) (nw : Nat → Nat → Nat) (ni : Nat → Nat → Nat → Nat) (nm : Nat → ByteArray) (i j : Nat) (v : Nat → Value) (wx : World) (Q : Exit → Act → World → Prop)
    (R : Rws wr own lo V C X) (ps : PSh nk nc nw ni nm V C X) (ms : MSh nk nc nw ni nm V C X) (hi : i < nk) (hj : j < nc i) (b1 : nk ≤ 512) (b2 : ∀ i, nc i ≤ 512) (b3 : ∀ i j, nw i j ≤ 512) (b4 : ∀ i j p, ni i j p ≤ 512) (h0 : L6 wr B kb V (nw i j) i j 0 v wx)
    (hQ : ∀ v w', W6 wr kb V i w' → v 33 = .int .i64 (i : Int) → v 35 = .int .i64 (j : Int) → v 34 = .pointer (some ⟨kb, 0, none⟩) → Sl B V v → Q (.exit 11) ⟨frame2 v, []⟩ w') :
    (Code.loop (((Ybaf.f4.body.map loops).getD []).getD 5 .skip)).wp Ybaf.prog Q ⟨frame2 v, []⟩ wx := by
  obtain ⟨g4, k4, e4, -, t4, -, -, x4, -⟩ := R.at [4] (by rw [ms.1]; omega)
  obtain ⟨g5, k5, e5, -, t5, -, -, x5, -⟩ := R.at [5, i] (by rw [(ms.2.2.1 i).1]; omega)
  obtain ⟨g1, k1, e1, -, t1, -, -, x1, -⟩ := R.at [1, i] (by rw [(ps.2.2.1 i).1]; omega)
  rw [ms.1] at e4
  rw [(ms.2.2.1 i).1] at e5
  rw [(ps.2.2.1 i).1] at e1
  have z4 := x4 _ _ (ms.2.1 i hi)
  have z5 := x5 _ _ ((ms.2.2.1 i).2 j hj)
  have z1 := x1 _ _ ((ps.2.2.1 i).2 j hj)
  rw [e5] at z4
  obtain ⟨a6, k6, e6⟩ := R.val [6, i, j]
  obtain ⟨a2, k2, e2⟩ := R.val [2, i, j]
  rw [(ms.2.2.2.1 i j).1] at e6
  rw [(ps.2.2.2.1 i j).1] at e2
  rw [e6] at z5
  rw [e2] at z1
  have bi := b2 i
  have bj := b3 i j
  have HR := hide R
  have HPS := hide ps
  have HMS := hide ms
  have HQ := hide hQ
  have HB4 := hide b4
  clear R ps ms hQ x4 x5 x1 b4 b2 b3
  have hi1 : (i : Int) < (nk : Int) := by omega
  have hj1 : (j : Int) < (nc i : Int) := by omega
  have hi2 : (i : Int) ≤ 600 := by omega
  have hi3 : (0 : Int) ≤ (i : Int) := by omega
  have hi4 : IntKind.i64.wrap (i : Int) = (i : Int) := IntWalk.i64_in _ (by omega)
  have hj2 : (j : Int) ≤ 600 := by omega
  have hj3 : (0 : Int) ≤ (j : Int) := by omega
  have hj4 : IntKind.i64.wrap (j : Int) = (j : Int) := IntWalk.i64_in _ (by omega)
  have HE := hide (And.intro e4 (And.intro e5 (And.intro e1 (And.intro e6 e2))))
  have HZ := hide (And.intro z4 (And.intro z5 z1))
  clear e5 e1 e6 e2 z4 z5 z1
  refine wp_loop (fun a wx => ∃ (p : Nat) (v : Nat → Value), a = ⟨frame2 v, []⟩ ∧ L6 wr B kb V (nw i j) i j p v wx) (muAt 36 (nw i j)) ⟨0, v, rfl, h0⟩ ?round
  rintro _ wx ⟨p, v, rfl, hp, hw, e36, e33, e35, e34, s3, s4, s5, s6, s7⟩
  have hM : muAt 36 (nw i j) ⟨frame2 v, []⟩ wx = nw i j - p := muAt_is wx e36
  rw [hM]
  have y4 := cell_below hw.1 t4 HZ.out.1
  have y5 := cell_below hw.1 t5 HZ.out.2.1
  have y1 := cell_below hw.1 t1 HZ.out.2.2
  have yk := hw.2.2
  rw [HE.out.2.2.1] at yk
  rw [e4] at s4
  have HW := hide hw
  clear hM hw
  unfold frame2
  rw [e36, e33, e35, e34, s3, s4, s5, s6, s7]
  clear e36 e33 e35 e34 s3 s4 s5 s6 s7
  conv => arg 2; whnf
  by_cases hpc : p < nw i j
  · have hp1 : (p : Int) < (nw i j : Int) := by omega
    have hp2 : (p : Int) ≤ 600 := by omega
    have hp3 : (0 : Int) ≤ (p : Int) := by omega
    have hp4 : IntKind.i64.wrap (p : Int) = (p : Int) := IntWalk.i64_in _ (by omega)
    obtain ⟨g2, k2', e2, -, t2, -, -, x2, -⟩ := HR.out.at [2, i, j] (by rw [(HPS.out.2.2.2.1 i j).1]; omega)
    obtain ⟨g6, k6', e6, -, t6, -, -, x6, -⟩ := HR.out.at [6, i, j] (by rw [(HMS.out.2.2.2.1 i j).1]; omega)
    rw [(HPS.out.2.2.2.1 i j).1] at e2
    rw [(HMS.out.2.2.2.1 i j).1] at e6
    obtain ⟨rfl, rfl⟩ : a2 = some ⟨g2, 0, none⟩ ∧ k2 = k2' := by
      have := HE.out.2.2.2.2.symm.trans e2
      simp at this
      exact this
    obtain ⟨rfl, rfl⟩ : a6 = some ⟨g6, 0, none⟩ ∧ k6 = k6' := by
      have := HE.out.2.2.2.1.symm.trans e6
      simp at this
      exact this
    obtain ⟨a3, k3, e3⟩ := HR.out.val [3, i, j, p]
    rw [HPS.out.2.2.2.2.1 i j p] at e3
    have z2 := cell_below HW.out.1 t2 (x2 _ _ ((HPS.out.2.2.2.1 i j).2 p hpc))
    have z6 := cell_below HW.out.1 t6 (x6 _ _ ((HMS.out.2.2.2.1 i j).2 p hpc))
    rw [e3] at z2
    have bp := HB4.out i j p
    have bp1 : (ni i j p : Int) ≤ 512 := by omega
    clear x2 x6 e2 e6 e3
    go_wp2_with fail
    go_quiet (fail)
    clear z2 z6 y4 y5 y1 yk
    go_wp2_with fail
    refine ⟨in_frame2 (p + 1) ?_ ⟨hpc, HW.out.draw _, ?_, rfl, rfl, rfl, rfl, ?_, rfl, rfl, rfl⟩, muAt_less _ rfl hpc⟩
    · kernel_rfl
    · exact congrArg (Value.int .i64) (by omega)
    · exact e4.symm
  · have hp1 : ¬ (p : Int) < (nw i j : Int) := by omega
    go_wp2_with fail
    refine to_frame2 (Φ := fun a => Q (.exit 11) a wx) ?_ (HQ.out _ wx HW.out rfl rfl rfl ⟨rfl, ?_, rfl, rfl, rfl⟩)
    · kernel_rfl
    · exact e4.symm
end Go.Proofs.YbulkmvuFmt
