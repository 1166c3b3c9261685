/-
  The round of 'LawS0670AScript': an alloc line after a kernel.
-/
import Derived.Test.YbulkmvuFmtStays
namespace Go.Proofs.YbulkmvuFmt
open Go.RowKit Go.Extern.Stop Go.Stop Go.Extern
set_option linter.unusedVariables false

set_option maxHeartbeats 4000000 in
set_option maxRecDepth 1000000 in
theorem case5_late (F : Interp) (a0 : Option Addr) (n c k b off : Nat) (u : Nat → Value) (w wr : World) (s : St3) (own : Nat → List Nat) (V : List Nat → Value) (C : List Nat → Nat) (X : List Nat → List Value) (nk : Nat) (nc : Nat → Nat) (nw : Nat → Nat → Nat) (ni : Nat → Nat → Nat → Nat) (nm : Nat → ByteArray) (na : Nat) (K : Act → World → Prop) (Q : Exit → Act → World → Prop) (h : In F a0 n c k b off u w wr s own V C X nk nc nw ni nm na) (hop : (s.op : Int).tmod 7 = 5) (hnk : 0 < nk)
    (hK : ∀ arr w', Res a0 n c w k arr w' → K ⟨arr, []⟩ w') :
    Code.wp Ybaf.prog ((Ybaf.f4.body.bind firstLoop).getD .skip) (Exit.then K Q) ⟨frame a0 n c w.heap.size u, []⟩ wr := by
  obtain ⟨o1, o2, o3⟩ := h.hok
  have i1 : (s.op : Int) ≤ 255 := by omega
  have i2 : (s.n : Int) ≤ 255 := by omega
  have i3 : (s.a : Int) ≤ 18446744073709551615 := by omega
  have hu := h.hu
  have hkn := h.hkn
  have hn := h.hn
  have hlo := h.hlo
  have hb1 := h.b1
  have hu4 := h.hu4
  obtain ⟨m0, mm, hv4⟩ := h.R.val [4]
  rw [h.ms.1] at hv4
  obtain ⟨q, rfl⟩ : ∃ q, nk = q + 1 := ⟨nk - 1, by omega⟩
  obtain ⟨x0, xk, hv0⟩ := h.nk0
  have hz : ¬ ((q : Int) + 1 = 0) := by omega
  have HV0 := hide hv0
  clear hv0
  obtain rfl := h.ha
  have c0 := h.c0
  have c1 := h.c1
  have c2 := h.c2
  unfold frame
  rw [hu, hu4, hv4]
  conv => arg 2; whnf
  have HK := hide hK
  have HI := hide h
  have HV4 := hide hv4
  clear hK h hv4 hu hu4
  go_wp2_with fail
  all_goals (
    generalize hw1 : wr.alloc _ = w1
    have hb1 : Below wr.heap.size wr w1 := by rw [← hw1]; exact (Below.refl _ _).alloc (Nat.le_refl _) _
    have hp1 : Pow w1 := by rw [← hw1]; exact Lib.tabIs_alloc HI.out.hP _
    have hr1 : Bru w1 := bru_below HI.out.hBr hb1
    have hs1 : w1.heap.size = wr.heap.size + 1 := by rw [← hw1]; simp
    have y1 : w1.cell? ⟨wr.heap.size, 2, none⟩ = some (.int .u64 s.a) := by rw [← hw1]; exact (boxed_cell3 wr _ _ _ 38).2.2
    refine (format_hex s.a (by omega) w1 hr1).mono ?_
    rintro e w2 ⟨l, rfl, hb2, hnum⟩
    have HB2 : Hid (Below wr.heap.size wr w2) := hide (hb1.trans (hb2.mono hb1.size))
    have hs2 : wr.heap.size + 1 ≤ w2.heap.size := by have := hb2.size; omega
    have y2 : w2.cell? ⟨wr.heap.size, 2, none⟩ = some (.int .u64 s.a) := cell_below hb2 (by omega) y1
    have hll : ¬ 9223372036854775807 < 2 + l.length := by have := hnum.2.1; omega
    have HN1 := hide hnum
    have HP2 : Hid (Pow w2) := hide (pow_below hp1 hb2)
    clear hw1 hb1 hp1 hr1 y1 hb2 hnum c0 c1 c2 hs1
    go_wp2_with fail
    refine (format_dec s.n (by omega) w2 HP2.out).mono ?_
    rintro e w3 ⟨l2, rfl, hb3, hnum2⟩
    have HB3 : Hid (Below wr.heap.size wr w3) := hide (HB2.out.trans (hb3.mono HB2.out.size))
    have hs3 : wr.heap.size + 1 ≤ w3.heap.size := by have := hb3.size; omega
    have y3 : w3.cell? ⟨wr.heap.size, 2, none⟩ = some (.int .u64 s.a) := cell_below hb3 (by omega) y2
    have z3 : ∀ o, (w3.alloc o).cell? ⟨wr.heap.size, 2, none⟩ = some (.int .u64 s.a) := cell_old (by omega) y3
    have HN2 := hide hnum2
    clear hb3 hnum2 y2 HP2 HB2
    go_wp2_with fail
    generalize hw4 : w3.alloc _ = w4
    have hb4 : Below wr.heap.size wr w4 := by rw [← hw4]; exact HB3.out.alloc (by omega) _
    have hs4 : w4.heap.size = w3.heap.size + 1 := by rw [← hw4]; simp
    have f4 : w4.cell? ⟨w3.heap.size, 0, none⟩ = some (.string ⟨#[97, 108, 108, 111, 99]⟩) ∧ w4.cell? ⟨w3.heap.size, 1, none⟩ = some (.string ⟨(48 :: 120 :: l).toArray⟩) ∧ w4.cell? ⟨w3.heap.size, 2, none⟩ = some (.string ⟨l2.toArray⟩) := by rw [← hw4, ← hex_str]; exact boxed_cell3 w3 _ _ _ 9
    refine (parse_alloc_late w4 own (w.heap.size + 1) w.heap.size w3.heap.size 3 V C X ((k : Int) + 2) (HI.out.R.below hb4) ((hb4.block _ (by omega)).trans HI.out.hB) (by omega) (by omega) (by omega) (by omega) x0 q xk HV0.out f4.1).mono ?_
    rintro e w5 ⟨⟨a, rfl⟩, hb5⟩
    have HB5 : Hid (Below wr.heap.size wr w5) := hide (hb4.trans (hb5.mono hb4.size))
    clear hw4 hb4 hs4 f4 hb5 HB3 y3 z3
    go_wp2_with fail
    refine HK.out _ w5 (HI.out.done ?_ rfl ?_ rfl rfl rfl HB5.out)
    · kernel_rfl
    · exact HV4.out.symm)
end Go.Proofs.YbulkmvuFmt
