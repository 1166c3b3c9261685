/-
  The loop over the allocations.
-/
import Derived.Test.YbulkmvuFmtAfter
namespace Go.Proofs.YbulkmvuFmt
open Go.RowKit Go.Extern.Stop Go.Stop Go.Extern
set_option linter.unusedVariables false

def L7 (wr : World) (B : Nat) (V : List Nat → Value) (N : Nat) (i : Nat) (v : Nat → Value) (wx : World) : Prop :=
  i ≤ N ∧ Below wr.heap.size wr wx ∧ v 37 = .int .i64 (i : Int) ∧ Sl B V v

set_option maxHeartbeats 4000000 in
set_option maxRecDepth 1000000 in
theorem loop7 (wr : World) (own : Nat → List Nat) (B lo : Nat) (V : List Nat → Value) (C : List Nat → Nat) (X : List Nat → List Value) (na : Nat) (v : Nat → Value) (wx : World) (Q : Exit → Act → World → Prop)
    (R : Rws wr own lo V C X) (hB : PBx wr B V) (hBl : B < wr.heap.size) (al : ASh na C X) (b5 : na ≤ 512) (h0 : L7 wr B V na 0 v wx)
    (hQ : ∀ v w', Below wr.heap.size wr w' → Q (.exit 13) ⟨frame2 v, []⟩ w') :
    (Code.loop (((Ybaf.f4.body.map loops).getD []).getD 6 .skip)).wp Ybaf.prog Q ⟨frame2 v, []⟩ wx := by
  obtain ⟨a8, k8, e8⟩ := R.val [8]
  obtain ⟨a9, k9, e9⟩ := R.val [9]
  obtain ⟨a10, k10, e10⟩ := R.val [10]
  obtain ⟨a11, k11, e11⟩ := R.val [11]
  rw [al.1] at e8
  rw [al.2.1] at e9
  rw [al.2.2.1] at e10
  rw [al.2.2.2.1] at e11
  have zB : wr.cell? ⟨B, 0, none⟩ = some (V [8]) := (cell_of_row wr _ _ _ _ _ hB).trans rfl
  have zC : wr.cell? ⟨B, 4, none⟩ = some (V [9]) := (cell_of_row wr _ _ _ _ _ hB).trans rfl
  rw [e8] at zB
  rw [e9] at zC
  have HR := hide R
  have HA := hide al
  have HQ := hide hQ
  have HE := hide (And.intro e8 (And.intro e9 (And.intro e10 e11)))
  have HZ := hide (And.intro zB zC)
  clear R al hQ e8 e9 e10 e11 zB zC hB
  refine wp_loop (fun a wx => ∃ (i : Nat) (v : Nat → Value), a = ⟨frame2 v, []⟩ ∧ L7 wr B V na i v wx) (muAt 37 na) ⟨0, v, rfl, h0⟩ ?round
  rintro _ wx ⟨i, v, rfl, hi, hw, e37, s3, s4, s5, s6, s7⟩
  have hM : muAt 37 na ⟨frame2 v, []⟩ wx = na - i := muAt_is wx e37
  rw [hM]
  have yB := cell_below hw hBl HZ.out.1
  have yC := cell_below hw hBl HZ.out.2
  rw [HE.out.2.2.1] at s6
  rw [HE.out.2.2.2] at s7
  have HW := hide hw
  clear hM hw
  unfold frame2
  rw [e37, s3, s4, s5, s6, s7]
  clear e37 s3 s4 s5 s6 s7
  conv => arg 2; whnf
  by_cases hic : i < na
  · have hi1 : (i : Int) < (na : Int) := by omega
    have hi2 : (i : Int) ≤ 600 := by omega
    have hi3 : (0 : Int) ≤ (i : Int) := by omega
    have hi4 : IntKind.i64.wrap (i : Int) = (i : Int) := IntWalk.i64_in _ (by omega)
    obtain ⟨g8, k8', e8, -, t8, -, -, x8, -⟩ := HR.out.at [8] (by rw [HA.out.1]; omega)
    obtain ⟨g9, k9', e9, -, t9, -, -, x9, -⟩ := HR.out.at [9] (by rw [HA.out.2.1]; omega)
    obtain ⟨g10, k10', e10, -, t10, -, -, x10, -⟩ := HR.out.at [10] (by rw [HA.out.2.2.1]; omega)
    obtain ⟨g11, k11', e11, -, t11, -, -, x11, -⟩ := HR.out.at [11] (by rw [HA.out.2.2.2.1]; omega)
    rw [HA.out.1] at e8
    rw [HA.out.2.1] at e9
    rw [HA.out.2.2.1] at e10
    rw [HA.out.2.2.2.1] at e11
    obtain ⟨rfl, rfl⟩ : a8 = some ⟨g8, 0, none⟩ ∧ k8 = k8' := by
      have := HE.out.1.symm.trans e8
      simp at this
      exact this
    obtain ⟨rfl, rfl⟩ : a9 = some ⟨g9, 0, none⟩ ∧ k9 = k9' := by
      have := HE.out.2.1.symm.trans e9
      simp at this
      exact this
    obtain ⟨rfl, rfl⟩ : a10 = some ⟨g10, 0, none⟩ ∧ k10 = k10' := by
      have := HE.out.2.2.1.symm.trans e10
      simp at this
      exact this
    obtain ⟨rfl, rfl⟩ : a11 = some ⟨g11, 0, none⟩ ∧ k11 = k11' := by
      have := HE.out.2.2.2.symm.trans e11
      simp at this
      exact this
    obtain ⟨va, vn, vl, f1, f2, f3⟩ := HA.out.2.2.2.2.2.2 i hic
    have z1 := cell_below HW.out t8 (x8 _ _ f1)
    have z2 := cell_below HW.out t8 (x8 _ _ f2)
    have z3 := cell_below HW.out t9 (x9 _ _ f3)
    have z4 := cell_below HW.out t10 (x10 _ _ (by rw [HA.out.2.2.2.2.1]; exact f1))
    have z5 := cell_below HW.out t10 (x10 _ _ (by rw [HA.out.2.2.2.2.1]; exact f2))
    have z6 := cell_below HW.out t11 (x11 _ _ (by rw [HA.out.2.2.2.2.2.1]; exact f3))
    clear x8 x9 x10 x11 e8 e9 e10 e11 f1 f2 f3
    go_wp2_with fail
    go_quiet (fail)
    clear z1 z2 z3 z4 z5 z6 yB yC
    go_wp2_with fail
    refine ⟨in_frame2 (i + 1) ?_ ⟨hic, below_drewN HW.out _, ?_, rfl, rfl, rfl, ?_, ?_⟩, muAt_less _ rfl hic⟩
    · kernel_rfl
    · exact congrArg (Value.int .i64) (by omega)
    · exact HE.out.2.2.1.symm
    · exact HE.out.2.2.2.symm
  · have hi1 : ¬ (i : Int) < (na : Int) := by omega
    go_wp2_with fail
    refine to_frame2 (Φ := fun a => Q (.exit 13) a wx) ?_ (HQ.out _ wx HW.out)
    kernel_rfl
end Go.Proofs.YbulkmvuFmt
