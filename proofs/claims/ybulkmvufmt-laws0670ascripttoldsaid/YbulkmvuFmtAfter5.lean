/-
  The loop over a kernel's CTAs.
-/
import Derived.Test.YbulkmvuFmtAfter6
namespace Go.Proofs.YbulkmvuFmt
open Go.RowKit Go.Extern.Stop Go.Stop Go.Extern
set_option linter.unusedVariables false

def L5 (wr : World) (B kb : Nat) (V : List Nat → Value) (N i : Nat) (j : Nat) (v : Nat → Value) (wx : World) : Prop :=
  j ≤ N ∧ W6 wr kb V i wx ∧ v 35 = .int .i64 (j : Int) ∧ v 33 = .int .i64 (i : Int) ∧ v 34 = .pointer (some ⟨kb, 0, none⟩) ∧ Sl B V v

set_option maxHeartbeats 4000000 in
set_option maxRecDepth 1000000 in
theorem loop5 (wr : World) (own : Nat → List Nat) (B kb lo : Nat) (V : List Nat → Value) (C : List Nat → Nat) (X : List Nat → List Value) (nk : Nat) (nc : Nat → Nat) (nw : Nat → Nat → Nat) (ni : Nat → Nat → Nat → Nat) (nm : Nat → ByteArray) (i : Nat) (v : Nat → Value) (wx : World) (Q : Exit → Act → World → Prop)
    (R : Rws wr own lo V C X) (ps : PSh nk nc nw ni nm V C X) (ms : MSh nk nc nw ni nm V C X) (hi : i < nk) (b1 : nk ≤ 512) (b2 : ∀ i, nc i ≤ 512) (b3 : ∀ i j, nw i j ≤ 512) (b4 : ∀ i j p, ni i j p ≤ 512) (h0 : L5 wr B kb V (nc i) i 0 v wx)
    (hQ : ∀ v w', W6 wr kb V i w' → v 33 = .int .i64 (i : Int) → Sl B V v → Q (.exit 9) ⟨frame2 v, []⟩ w') :
    (Code.loop (((Ybaf.f4.body.map loops).getD []).getD 4 .skip)).wp Ybaf.prog Q ⟨frame2 v, []⟩ wx := by
  obtain ⟨g4, k4, e4, -, t4, -, -, x4, -⟩ := R.at [4] (by rw [ms.1]; omega)
  rw [ms.1] at e4
  have z4 := x4 _ _ (ms.2.1 i hi)
  obtain ⟨a5, k5, e5⟩ := R.val [5, i]
  obtain ⟨a1, k1, e1⟩ := R.val [1, i]
  rw [(ms.2.2.1 i).1] at e5
  rw [(ps.2.2.1 i).1] at e1
  rw [e5] at z4
  have bi := b2 i
  have HR := hide R
  have HPS := hide ps
  have HMS := hide ms
  have HQ := hide hQ
  have HB := hide (And.intro b2 (And.intro b3 b4))
  clear R ps ms hQ x4 b4 b2 b3
  have hi1 : (i : Int) < (nk : Int) := by omega
  have hi2 : (i : Int) ≤ 600 := by omega
  have hi3 : (0 : Int) ≤ (i : Int) := by omega
  have hi4 : IntKind.i64.wrap (i : Int) = (i : Int) := IntWalk.i64_in _ (by omega)
  have HE := hide (And.intro e5 e1)
  have HZ := hide z4
  clear e5 e1 z4
  refine wp_loop (fun a wx => ∃ (j : Nat) (v : Nat → Value), a = ⟨frame2 v, []⟩ ∧ L5 wr B kb V (nc i) i j v wx) (muAt 35 (nc i)) ⟨0, v, rfl, h0⟩ ?round
  rintro _ wx ⟨j, v, rfl, hj, hw, e35, e33, e34, s3, s4, s5, s6, s7⟩
  have hM : muAt 35 (nc i) ⟨frame2 v, []⟩ wx = nc i - j := muAt_is wx e35
  rw [hM]
  have y4 := cell_below hw.1 t4 HZ.out
  have yk := hw.2.2
  rw [HE.out.2] at yk
  rw [e4] at s4
  have HW := hide hw
  clear hM hw
  unfold frame2
  rw [e35, e33, e34, s3, s4, s5, s6, s7]
  clear e35 e33 e34 s3 s4 s5 s6 s7
  conv => arg 2; whnf
  by_cases hjc : j < nc i
  · have hj1 : (j : Int) < (nc i : Int) := by omega
    have hj2 : (j : Int) ≤ 600 := by omega
    have hj3 : (0 : Int) ≤ (j : Int) := by omega
    have hj4 : IntKind.i64.wrap (j : Int) = (j : Int) := IntWalk.i64_in _ (by omega)
    obtain ⟨g1, k1', e1, -, t1, -, -, x1, -⟩ := HR.out.at [1, i] (by rw [(HPS.out.2.2.1 i).1]; omega)
    obtain ⟨g5, k5', e5, -, t5, -, -, x5, -⟩ := HR.out.at [5, i] (by rw [(HMS.out.2.2.1 i).1]; omega)
    rw [(HPS.out.2.2.1 i).1] at e1
    rw [(HMS.out.2.2.1 i).1] at e5
    obtain ⟨rfl, rfl⟩ : a1 = some ⟨g1, 0, none⟩ ∧ k1 = k1' := by
      have := HE.out.2.symm.trans e1
      simp at this
      exact this
    obtain ⟨rfl, rfl⟩ : a5 = some ⟨g5, 0, none⟩ ∧ k5 = k5' := by
      have := HE.out.1.symm.trans e5
      simp at this
      exact this
    obtain ⟨a2, k2, e2⟩ := HR.out.val [2, i, j]
    obtain ⟨a6, k6, e6⟩ := HR.out.val [6, i, j]
    rw [(HPS.out.2.2.2.1 i j).1] at e2
    rw [(HMS.out.2.2.2.1 i j).1] at e6
    have z1 := cell_below HW.out.1 t1 (x1 _ _ ((HPS.out.2.2.1 i).2 j hjc))
    have z5 := cell_below HW.out.1 t5 (x5 _ _ ((HMS.out.2.2.1 i).2 j hjc))
    rw [e2] at z1
    rw [e6] at z5
    have bj := HB.out.2.1 i j
    have bj1 : (nw i j : Int) ≤ 512 := by omega
    clear x1 x5 e1 e5 e2 e6
    go_wp2_with fail
    go_quiet (fail)
    clear z1 z5 y4 yk
    go_wp2_with fail
    refine wp_code_eq (c' := .loop (((Ybaf.f4.body.map loops).getD []).getD 5 .skip)) (by kernel_rfl) ?_
    refine to_frame2 (Φ := fun a => (Code.loop (((Ybaf.f4.body.map loops).getD []).getD 5 .skip)).wp Ybaf.prog _ a _) ?_ (loop6 wr own B kb lo V C X nk nc nw ni nm i j _ _ _ HR.out HPS.out HMS.out hi hjc b1 HB.out.1 HB.out.2.1 HB.out.2.2 ⟨Nat.zero_le _, HW.out.draw _, rfl, rfl, rfl, rfl, rfl, ?_, rfl, rfl, rfl⟩ ?_)
    · kernel_rfl
    · exact e4.symm
    intro v w' hw' e33 e35 e34 hs
    have HS := hide hs
    obtain ⟨s3, s4, s5, s6, s7⟩ := hs
    rw [e4] at s4
    unfold frame2
    rw [e33, e35, e34, s3, s4, s5, s6, s7]
    have HW' := hide hw'
    clear e33 e35 e34 s3 s4 s5 s6 s7 hw' HS
    go_wp2_with fail
    refine ⟨in_frame2 (j + 1) ?_ ⟨hjc, HW'.out, ?_, rfl, rfl, rfl, ?_, rfl, rfl, rfl⟩, muAt_less _ rfl hjc⟩
    · kernel_rfl
    · exact congrArg (Value.int .i64) (by omega)
    · exact e4.symm
  · have hj1 : ¬ (j : Int) < (nc i : Int) := by omega
    go_wp2_with fail
    refine to_frame2 (Φ := fun a => Q (.exit 9) a wx) ?_ (HQ.out _ wx HW.out rfl ⟨rfl, ?_, rfl, rfl, rfl⟩)
    · kernel_rfl
    · exact e4.symm
end Go.Proofs.YbulkmvuFmt
