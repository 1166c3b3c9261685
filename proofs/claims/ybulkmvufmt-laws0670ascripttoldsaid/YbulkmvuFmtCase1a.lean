/-
  The round of 'LawS0670AScript': a cta line before any kernel.
-/
import Derived.Test.YbulkmvuFmtRound
namespace Go.Proofs.YbulkmvuFmt
open Go.RowKit Go.Extern.Stop Go.Stop Go.Extern
set_option linter.unusedVariables false

set_option maxHeartbeats 4000000 in
set_option maxRecDepth 1000000 in
theorem case1_none (F : Interp) (a0 : Option Addr) (n c k b off : Nat) (u : Nat → Value) (w wr : World) (s : St3) (own : Nat → List Nat) (V : List Nat → Value) (C : List Nat → Nat) (X : List Nat → List Value) (nk : Nat) (nc : Nat → Nat) (nw : Nat → Nat → Nat) (ni : Nat → Nat → Nat → Nat) (nm : Nat → ByteArray) (na : Nat) (K : Act → World → Prop) (Q : Exit → Act → World → Prop) (h : In F a0 n c k b off u w wr s own V C X nk nc nw ni nm na) (hop : (s.op : Int).tmod 7 = 1) (hnk : nk = 0)
    (hK : ∀ arr w', Res a0 n c w k arr w' → K ⟨arr, []⟩ w') :
    Code.wp Ybaf.prog ((Ybaf.f4.body.bind firstLoop).getD .skip) (Exit.then K Q) ⟨frame a0 n c w.heap.size u, []⟩ wr := by
  obtain ⟨o1, o2, o3⟩ := h.hok
  have i1 : (s.op : Int) ≤ 255 := by omega
  have i2 : (s.n : Int) ≤ 255 := by omega
  have i3 : (s.a : Int) ≤ 18446744073709551615 := by omega
  have hu := h.hu
  have hkn := h.hkn
  have hn := h.hn
  have hlo := h.hlo
  have hb1 := h.b1
  have hu4 := h.hu4
  obtain ⟨m0, mm, hv4⟩ := h.R.val [4]
  rw [h.ms.1] at hv4
  subst hnk
  obtain ⟨x0, xk, hv0⟩ := h.nk0
  have HV0 := hide hv0
  clear hv0
  obtain rfl := h.ha
  have c0 := h.c0
  have c1 := h.c1
  have c2 := h.c2
  unfold frame
  rw [hu, hu4, hv4]
  conv => arg 2; whnf
  have HK := hide hK
  have HI := hide h
  have HV4 := hide hv4
  clear hK h hv4 hu hu4
  go_wp2_with fail
  all_goals (
    generalize hw1 : wr.alloc _ = w1
    have hb1 : Below wr.heap.size wr w1 := by rw [← hw1]; exact (Below.refl _ _).alloc (Nat.le_refl _) _
    have hp1 : Pow w1 := by rw [← hw1]; exact Lib.tabIs_alloc HI.out.hP _
    have hs1 : w1.heap.size = wr.heap.size + 1 := by rw [← hw1]; simp
    have y1 : w1.cell? ⟨wr.heap.size, 1, none⟩ = some (.int .u8 s.n) := by rw [← hw1]; exact (boxed_cell3 wr _ _ _ 38).2.1
    first
      | refine (itoa_num 0 (by omega) w1 hp1).mono ?_
      | refine (itoa_num 1 (by omega) w1 hp1).mono ?_
      | fail
    rintro e w2 ⟨l, rfl, hb2, hnum⟩
    have HB2 : Hid (Below wr.heap.size wr w2) := hide (hb1.trans (hb2.mono hb1.size))
    have hs2 : wr.heap.size + 1 ≤ w2.heap.size := by have := hb2.size; omega
    have y2 : w2.cell? ⟨wr.heap.size, 1, none⟩ = some (.int .u8 s.n) := cell_below hb2 (by omega) y1
    have z2 : ∀ o, (w2.alloc o).cell? ⟨wr.heap.size, 1, none⟩ = some (.int .u8 s.n) := cell_old (by omega) y2
    have HN := hide hnum
    clear hw1 hb1 hp1 y1 hb2 hnum c0 c1 c2 hs1
    go_wp2_with fail
    generalize hw3 : w2.alloc _ = w3
    have hb3 : Below wr.heap.size wr w3 := by rw [← hw3]; exact HB2.out.alloc (by omega) _
    have hs3 : w3.heap.size = w2.heap.size + 1 := by rw [← hw3]; simp
    have f3 : w3.cell? ⟨w2.heap.size, 0, none⟩ = some (.string ⟨#[99, 116, 97]⟩) ∧ w3.cell? ⟨w2.heap.size, 1, none⟩ = some (.string ⟨l.toArray⟩) := by rw [← hw3]; exact boxed_cell2 w2 _ _ 9
    refine (parse_cta0 w3 own (w.heap.size + 1) w.heap.size w2.heap.size 2 V C X ((k : Int) + 2) (HI.out.R.below hb3) ((hb3.block _ (by omega)).trans HI.out.hB) (by omega) (by omega) (by omega) x0 xk HV0.out f3.1).mono ?_
    rintro e w4 ⟨⟨a, rfl⟩, hb4⟩
    have HB4 : Hid (Below wr.heap.size wr w4) := hide (hb3.trans (hb4.mono hb3.size))
    clear hw3 hb3 hs3 f3 hb4 HB2 y2 z2
    go_wp2_with fail
    refine HK.out _ w4 (HI.out.done ?_ rfl ?_ rfl rfl rfl HB4.out)
    · kernel_rfl
    · exact HV4.out.symm)
end Go.Proofs.YbulkmvuFmt
