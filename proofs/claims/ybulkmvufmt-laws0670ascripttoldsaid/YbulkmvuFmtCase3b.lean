/-
  The round of 'LawS0670AScript': a c line in a kernel with no cta.
-/
import Derived.Test.YbulkmvuFmtStays
namespace Go.Proofs.YbulkmvuFmt
open Go.RowKit Go.Extern.Stop Go.Stop Go.Extern
set_option linter.unusedVariables false

set_option maxHeartbeats 4000000 in
set_option maxRecDepth 1000000 in
theorem case3_none2 (F : Interp) (a0 : Option Addr) (n c k b off : Nat) (u : Nat → Value) (w wr : World) (s : St3) (own : Nat → List Nat) (V : List Nat → Value) (C : List Nat → Nat) (X : List Nat → List Value) (nk : Nat) (nc : Nat → Nat) (nw : Nat → Nat → Nat) (ni : Nat → Nat → Nat → Nat) (nm : Nat → ByteArray) (na : Nat) (K : Act → World → Prop) (Q : Exit → Act → World → Prop) (h : In F a0 n c k b off u w wr s own V C X nk nc nw ni nm na) (hop : (s.op : Int).tmod 7 = 3) (hnk : 0 < nk) (hq0 : nc (nk - 1) = 0)
    (hK : ∀ arr w', Res a0 n c w k arr w' → K ⟨arr, []⟩ w') :
    Code.wp Ybaf.prog ((Ybaf.f4.body.bind firstLoop).getD .skip) (Exit.then K Q) ⟨frame a0 n c w.heap.size u, []⟩ wr := by
  obtain ⟨o1, o2, o3⟩ := h.hok
  have i1 : (s.op : Int) ≤ 255 := by omega
  have i2 : (s.n : Int) ≤ 255 := by omega
  have i3 : (s.a : Int) ≤ 18446744073709551615 := by omega
  have hu := h.hu
  have hkn := h.hkn
  have hn := h.hn
  have hlo := h.hlo
  have hb1 := h.b1
  have hu4 := h.hu4
  obtain ⟨m0, mm, hv4⟩ := h.R.val [4]
  rw [h.ms.1] at hv4
  obtain ⟨q, rfl⟩ : ∃ q, nk = q + 1 := ⟨nk - 1, by omega⟩
  have hq0 : nc q = 0 := hq0
  obtain ⟨g4, k4, a5, k5, g0, k0, a1, k1, e4, t4, e5, x4, e0, t0, e1, x0, f4⟩ := h.lastK
  have hnc := h.b2 q
  have hp1 : (0 : Int) < (q : Int) + 1 := by omega
  have hp2 : (q : Int) < (q : Int) + 1 := by omega
  have hp3 : (0 : Int) ≤ (q : Int) := by omega
  have hp4 : IntKind.i64.wrap ((q : Int) + 1 - 1) = (q : Int) := by rw [IntWalk.i64_in _ (by omega)]; omega
  have hp5 : IntKind.i64.wrap (q : Int) = (q : Int) := IntWalk.i64_in _ (by omega)
  have hp6 : (nc q : Int) ≤ 512 := by omega
  have hp7 : (q : Int) ≤ 512 := by omega
  have HE : Hid (V [5, q] = .slice a5 (nc q) k5 ∧ V [0] = .slice (some ⟨g0, 0, none⟩) (q + 1) k0 ∧ V [1, q] = .slice a1 (nc q) k1 ∧ wr.cell? ⟨g0, q * 2 + 1, none⟩ = some (.slice a1 (nc q) k1) ∧ (∀ j, wr.frozen? ⟨g4, j, none⟩ = false) ∧ wr.cell? ⟨g4, q, none⟩ = some (.slice a5 (nc q) k5)) := hide ⟨e5, e0, e1, x0, f4, x4⟩
  clear hv4
  have hv4 := e4
  clear e4 e5 e0 e1 x0 f4 x4
  obtain rfl := h.ha
  have c0 := h.c0
  have c1 := h.c1
  have c2 := h.c2
  unfold frame
  rw [hu, hu4, hv4]
  conv => arg 2; whnf
  have HK := hide hK
  have HI := hide h
  have HV4 := hide hv4
  clear hK h hv4 hu hu4
  go_wp2_with fail
  all_goals (
    generalize hw1 : wr.alloc _ = w1
    have hb1 : Below wr.heap.size wr w1 := by rw [← hw1]; exact (Below.refl _ _).alloc (Nat.le_refl _) _
    have hp1 : Pow w1 := by rw [← hw1]; exact Lib.tabIs_alloc HI.out.hP _
    have hs1 : w1.heap.size = wr.heap.size + 1 := by rw [← hw1]; simp
    refine (format_half s.a o3 w1 hp1).mono ?_
    rintro e w2 ⟨l, rfl, hb2, hnum⟩
    have HB2 : Hid (Below wr.heap.size wr w2) := hide (hb1.trans (hb2.mono hb1.size))
    have hs2 : wr.heap.size + 1 ≤ w2.heap.size := by have := hb2.size; omega
    have HN := hide hnum
    clear hw1 hb1 hp1 hb2 hnum c0 c1 c2 hs1
    go_wp2_with fail
    generalize hw3 : w2.alloc _ = w3
    have hb3 : Below wr.heap.size wr w3 := by rw [← hw3]; exact HB2.out.alloc (by omega) _
    have hs3 : w3.heap.size = w2.heap.size + 1 := by rw [← hw3]; simp
    have f3 : w3.cell? ⟨w2.heap.size, 0, none⟩ = some (.string ⟨#[99]⟩) ∧ w3.cell? ⟨w2.heap.size, 1, none⟩ = some (.string ⟨l.toArray⟩) := by rw [← hw3]; exact boxed_cell2 w2 _ _ 9
    have HB3 := hide hb3
    have HF3 := hide f3
    clear hw3 hb3 f3 HB2
    have d4 : w3.cell? ⟨g4, q, none⟩ = some (.slice a5 0 k5) := by
      have e := cell_below HB3.out t4 HE.out.2.2.2.2.2
      rw [hq0] at e
      exact e
    go_quiet (fail)
    generalize hw4 : w3.drewN nq = w4
    have hb4 : Below wr.heap.size wr w4 := by rw [← hw4]; exact below_drewN HB3.out _
    have hs4 : w4.heap.size = w3.heap.size := by rw [← hw4]; rfl
    have f4 : w4.cell? ⟨w2.heap.size, 0, none⟩ = some (.string ⟨#[99]⟩) ∧ w4.cell? ⟨w2.heap.size, 1, none⟩ = some (.string ⟨l.toArray⟩) := by rw [← hw4]; exact HF3.out
    have HB4 := hide hb4
    have HF4 := hide f4
    clear hw4 hb4 f4 HB3 HF3
    clear d4
    go_wp2_with fail
    have hB4 : PBx w4 w.heap.size V := (HB4.out.block _ (by omega)).trans HI.out.hB
    have hB1 : ∀ j, (w4.drewN j).cell? ⟨w.heap.size, 1, none⟩ = some (.slice (some ⟨g0, 0, none⟩) (q + 1) k0) := fun j => by
      rw [← HE.out.2.1]
      exact (cell_of_row w4 _ _ _ _ _ hB4).trans rfl
    have hB2 : ∀ j, (w4.drewN j).cell? ⟨g0, q * 2 + 1, none⟩ = some (.slice a1 0 k1) := fun j => by
      have e := cell_below HB4.out t0 HE.out.2.2.2.1
      rw [hq0] at e
      exact e
    have hno : ∀ j, Calls Ybaf.prog 8 #[.pointer (some ⟨w.heap.size, 0, none⟩)] (w4.drewN j) fun e w' => e = .returned (.pointer none) ∧ ∃ i, w' = (w4.drewN j).drewN i := fun j => warp_none_of (w4.drewN j) w.heap.size (cta_none2 (w4.drewN j) w.heap.size g0 q k0 a1 k1 (by omega) (hB1 j) (hB2 j))
    refine (parse_c0 F w4 own (w.heap.size + 1) w.heap.size w2.heap.size 2 V C X ((k : Int) + 2) (HI.out.R.below HB4.out) hB4 (by omega) (by omega) (by omega) 2 (by omega) (by omega) (by omega) (by rw [HB4.out.tape]; exact HI.out.hF) hno HF4.out.1).mono ?_
    rintro e w5 ⟨⟨a, rfl⟩, hb5⟩
    have HB5 : Hid (Below wr.heap.size wr w5) := hide (HB4.out.trans (hb5.mono HB4.out.size))
    clear hb5 hB4 hno hB1 hB2
    go_wp2_with fail
    refine HK.out _ w5 (HI.out.done ?_ rfl ?_ rfl rfl rfl HB5.out)
    · kernel_rfl
    · exact HV4.out.symm)
end Go.Proofs.YbulkmvuFmt
