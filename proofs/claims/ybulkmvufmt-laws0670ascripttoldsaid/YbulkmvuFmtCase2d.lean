/-
  The round of 'LawS0670AScript': a warp line in its order.
-/
import Derived.Test.YbulkmvuFmtRegion52
namespace Go.Proofs.YbulkmvuFmt
open Go.RowKit Go.Extern.Stop Go.Stop Go.Extern
set_option linter.unusedVariables false

set_option maxHeartbeats 4000000 in
set_option maxRecDepth 1000000 in
theorem case2_even (F : Interp) (a0 : Option Addr) (n c k b off : Nat) (u : Nat → Value) (w wr : World) (s : St3) (own : Nat → List Nat) (V : List Nat → Value) (C : List Nat → Nat) (X : List Nat → List Value) (nk : Nat) (nc : Nat → Nat) (nw : Nat → Nat → Nat) (ni : Nat → Nat → Nat → Nat) (nm : Nat → ByteArray) (na : Nat) (K : Act → World → Prop) (Q : Exit → Act → World → Prop) (h : In F a0 n c k b off u w wr s own V C X nk nc nw ni nm na) (hop : (s.op : Int).tmod 7 = 2) (hnk : 0 < nk) (hq0 : 0 < nc (nk - 1)) (hN : (s.n : Int).tmod 2 = 0)
    (hK : ∀ arr w', Res a0 n c w k arr w' → K ⟨arr, []⟩ w') :
    Code.wp Ybaf.prog ((Ybaf.f4.body.bind firstLoop).getD .skip) (Exit.then K Q) ⟨frame a0 n c w.heap.size u, []⟩ wr := by
  obtain ⟨o1, o2, o3⟩ := h.hok
  have i1 : (s.op : Int) ≤ 255 := by omega
  have i2 : (s.n : Int) ≤ 255 := by omega
  have i3 : (s.a : Int) ≤ 18446744073709551615 := by omega
  have hu := h.hu
  have hkn := h.hkn
  have hn := h.hn
  have hlo := h.hlo
  have hb1 := h.b1
  have hu4 := h.hu4
  obtain ⟨m0, mm, hv4⟩ := h.R.val [4]
  rw [h.ms.1] at hv4
  obtain ⟨i3', hi3, hz30, hz31, hz32⟩ := info_parts info3
  obtain ⟨q, rfl⟩ : ∃ q, nk = q + 1 := ⟨nk - 1, by omega⟩
  obtain ⟨r, hr⟩ : ∃ r, nc q = r + 1 := ⟨nc q - 1, by have : 0 < nc q := hq0; omega⟩
  obtain ⟨g4, k4, a5, k5', g0, k0, a1, k1', e4, t4, -, x4, e0, t0, -, x0, f4⟩ := h.lastK
  obtain ⟨g5, k5, a6, k6, g1, k1, a2, k2, e5, t5, e6, x5, e1, t1, e2, x1, f5⟩ := h.lastC hr
  have x4' : wr.cell? ⟨g4, q, none⟩ = some (.slice (some ⟨g5, 0, none⟩) (r + 1) k5) := by
    obtain ⟨g4', k4', e4', -, -, -, -, z4, -⟩ := h.R.at [4] (by rw [h.ms.1]; omega)
    have e : g4' = g4 := by rw [e4] at e4'; simp at e4'; exact e4'.1.symm
    subst e
    rw [← e5]; exact z4 _ _ (h.ms.2.1 q (by omega))
  have x0' : wr.cell? ⟨g0, q * 2 + 1, none⟩ = some (.slice (some ⟨g1, 0, none⟩) (r + 1) k1) := by
    obtain ⟨g0', k0', e0', -, -, -, -, z0, -⟩ := h.R.at [0] (by rw [h.ps.1]; omega)
    have e : g0' = g0 := by rw [e0] at e0'; simp at e0'; exact e0'.1.symm
    subst e
    rw [← e1]; exact z0 _ _ (h.ps.2.1 q (by omega)).2
  have hnc := h.b2 q
  have hnw := h.b3 q r
  have r4 := cell_old t4 x4'
  have hp1 : (0 : Int) < (q : Int) + 1 := by omega
  have hp2 : (q : Int) < (q : Int) + 1 := by omega
  have hp3 : (0 : Int) ≤ (q : Int) := by omega
  have hp4 : IntKind.i64.wrap ((q : Int) + 1 - 1) = (q : Int) := by rw [IntWalk.i64_in _ (by omega)]; omega
  have hp5 : IntKind.i64.wrap (q : Int) = (q : Int) := IntWalk.i64_in _ (by omega)
  have hr1 : (0 : Int) < (r : Int) + 1 := by omega
  have hr2 : (r : Int) < (r : Int) + 1 := by omega
  have hr3 : (0 : Int) ≤ (r : Int) := by omega
  have hr4 : IntKind.i64.wrap ((r : Int) + 1 - 1) = (r : Int) := by rw [IntWalk.i64_in _ (by omega)]; omega
  have hr5 : IntKind.i64.wrap (r : Int) = (r : Int) := IntWalk.i64_in _ (by omega)
  have hp6 : (nw q r : Int) ≤ 512 := by omega
  have hp7 : (q : Int) ≤ 512 := by omega
  have hr7 : (r : Int) ≤ 512 := by omega
  have HE : Hid (V [5, q] = .slice (some ⟨g5, 0, none⟩) (r + 1) k5 ∧ V [0] = .slice (some ⟨g0, 0, none⟩) (q + 1) k0 ∧ V [1, q] = .slice (some ⟨g1, 0, none⟩) (r + 1) k1 ∧ V [2, q, r] = .slice a2 (nw q r) k2 ∧ V [6, q, r] = .slice a6 (nw q r) k6) := hide ⟨e5, e0, e1, e2, e6⟩
  have HX : Hid (wr.cell? ⟨g4, q, none⟩ = some (.slice (some ⟨g5, 0, none⟩) (r + 1) k5) ∧ wr.cell? ⟨g0, q * 2 + 1, none⟩ = some (.slice (some ⟨g1, 0, none⟩) (r + 1) k1) ∧ wr.cell? ⟨g5, r, none⟩ = some (.slice a6 (nw q r) k6) ∧ wr.cell? ⟨g1, r, none⟩ = some (.slice a2 (nw q r) k2)) := hide ⟨x4', x0', x5, x1⟩
  clear hv4
  have hv4 := e4
  clear e4 e5 e0 e1 e2 e6 x0 f4 x4 x4' x0' x5 x1 f5
  obtain rfl := h.ha
  have c0 := h.c0
  have c1 := h.c1
  have c2 := h.c2
  unfold frame
  rw [hu, hu4, hv4]
  conv => arg 2; whnf
  have HK := hide hK
  have HI := hide h
  have HV4 := hide hv4
  clear hK h hv4 hu hu4
  go_wp2_with fail
  all_goals (
    generalize hwa : wr.alloc _ = wa
    have ra : wa.cell? ⟨g4, q, none⟩ = some (.slice (some ⟨g5, 0, none⟩) (r + 1) k5) := by rw [← hwa]; exact cell_old t4 HX.out.1 _
    have ra5 : wa.cell? ⟨g5, r, none⟩ = some (.slice a6 (nw q r) k6) := by rw [← hwa]; exact cell_old t5 HX.out.2.2.1 _
    have hba : Below wr.heap.size wr wa := by rw [← hwa]; exact (Below.refl _ _).alloc (Nat.le_refl _) _
    have hpa : Pow wa := by rw [← hwa]; exact Lib.tabIs_alloc HI.out.hP _
    have hsa : wa.heap.size = wr.heap.size + 1 := by rw [← hwa]; simp
    have ya : wa.cell? ⟨wr.heap.size, 1, none⟩ = some (.int .u8 s.n) := by rw [← hwa]; exact (boxed_cell3 wr _ _ _ 38).2.1
    have HBA := hide hba
    have HPA := hide hpa
    clear hwa hba hpa r4 c0 c1 c2
    go_quiet (fail)
    generalize hw1 : wa.drewN nq = w1
    have hb1 : Below wr.heap.size wr w1 := by rw [← hw1]; exact below_drewN HBA.out _
    have hp1 : Pow w1 := by rw [← hw1]; exact HPA.out
    have hs1 : w1.heap.size = wr.heap.size + 1 := by rw [← hw1]; exact hsa
    have y1 : w1.cell? ⟨wr.heap.size, 1, none⟩ = some (.int .u8 s.n) := by rw [← hw1]; exact ya
    have HW1 := hide (And.intro hb1 hp1)
    clear hw1 ra ra5 ya hsa HBA HPA hb1 hp1
    go_wp2_with fail
    have hb1 := HW1.out.1
    have hp1 := HW1.out.2
    refine (itoa_num (nw q r) (by omega) w1 hp1).mono ?_
    rintro e w2 ⟨l, rfl, hb2, hnum⟩
    have HB2 : Hid (Below wr.heap.size wr w2) := hide (hb1.trans (hb2.mono hb1.size))
    have hs2 : wr.heap.size + 1 ≤ w2.heap.size := by have := hb2.size; omega
    have y2 : w2.cell? ⟨wr.heap.size, 1, none⟩ = some (.int .u8 s.n) := cell_below hb2 (by omega) y1
    have z2 : ∀ o, (w2.alloc o).cell? ⟨wr.heap.size, 1, none⟩ = some (.int .u8 s.n) := cell_old (by omega) y2
    have HN := hide hnum
    clear hb1 hp1 HW1 y1 hb2 hnum hs1
    have y4 : ∀ o, (w2.alloc o).cell? ⟨g4, q, none⟩ = some (.slice (some ⟨g5, 0, none⟩) (r + 1) k5) := cell_old (by omega) (cell_below HB2.out t4 HX.out.1)
    go_wp2_with fail
    generalize hw3 : w2.alloc _ = w3
    have hb3 : Below wr.heap.size wr w3 := by rw [← hw3]; exact HB2.out.alloc (by omega) _
    have hs3 : w3.heap.size = w2.heap.size + 1 := by rw [← hw3]; simp
    have f3 : w3.cell? ⟨w2.heap.size, 0, none⟩ = some (.string ⟨#[119, 97, 114, 112]⟩) ∧ w3.cell? ⟨w2.heap.size, 1, none⟩ = some (.string ⟨l.toArray⟩) := by rw [← hw3]; exact boxed_cell2 w2 _ _ 9
    have HF3 := hide f3
    have HB3 := hide hb3
    clear hw3 hb3 f3 y4 z2 y2
    have hc6 : C [6, q, r] ≤ 600 := by rw [(HI.out.ms.2.2.2.1 q r).1]; omega
    refine code_eq (c' := (Ybaf.f4.body.bind (region? 52)).getD .skip) (by kernel_rfl) ?_
    refine frame_to (a0 := some ⟨b, off, none⟩) (n := n) (c := c) (B := w.heap.size) (Φ := fun a => Code.wp Ybaf.prog ((Ybaf.f4.body.bind (region? 52)).getD .skip) _ a _) ?_ (region52 _ n c w.heap.size _ w3 own (w.heap.size + 1) V C X q r g4 k4 g5 k5 _ rfl rfl rfl (by omega) (by omega) (HI.out.R.below HB3.out) (by omega) HV4.out HE.out.1 (HI.out.ms.2.1 q (by omega)) ((HI.out.ms.2.2.1 q).2 r (by omega)) hc6 ?_)
    · kernel_rfl
    intro v gv' cap4 w6 own6 s4 s5 s6 s7 s9 s10 s11 s12 s13 s14 s16 s52 R6 hb6 hs6 hq6
    have u4 : v 4 = .slice (some ⟨g4, 0, none⟩) (q + 1) k4 := s4
    have u5 : v 5 = u 5 := s5
    have u6 : v 6 = u 6 := s6
    have u7 : v 7 = u 7 := s7
    have u10 : v 10 = .int .i64 ((k : Int) + 2) := s10
    have u11 : v 11 = .slice (some ⟨w2.heap.size, 0, none⟩) 2 2 := s11
    have u12 : v 12 = .bool true := s12
    have u14 : v 14 = .int .i64 2 := s14
    have u52 : v 52 = .int .i64 (k : Int) := s52
    clear s4 s5 s6 s7 s9 s10 s11 s12 s13 s14 s16 s52
    unfold frame
    rw [u4, u5, u6, u7, u10, u11, u12, u14, u52]
    clear u4 u5 u6 u7 u10 u11 u12 u14 u52
    have ev5 : (upd V [6, q, r] (Value.slice (some ⟨gv', 0, none⟩) (C [6, q, r] + 1) cap4)) [5, q] = .slice (some ⟨g5, 0, none⟩) (r + 1) k5 := (upd_other _ _ (ne_head (by omega))).trans HE.out.1
    have ex5 : (upd X [6, q, r] (X [6, q, r] ++ [.int .i64 0])) [5, q] = X [5, q] := upd_other _ _ (ne_head (by omega))
    have lo5 : w.heap.size + 1 ≤ g5 := R6.rowLo ev5
    have HR6 := hide R6
    have HB6 := hide hb6
    have HQ6 := hide hq6
    have HV5 := hide ev5
    have HX5 := hide ex5
    clear R6 hb6 hq6 ev5 ex5
    have R7 := HR6.out.set [5, q] g5 k5 (r + 1) r (Value.slice (some ⟨gv', 0, none⟩) (C [6, q, r] + 1) cap4) HV5.out
    rw [HX5.out] at R7
    generalize hw7 : w6.setCell _ _ = w7
    rw [hw7] at R7
    have hs6' : w3.heap.size + 1 ≤ w6.heap.size := hs6
    have k6' : Kp w.heap.size (w.heap.size + 1) wr w6 := Kp.of_below ((HB3.out.mono hlo).trans HB6.out) (by omega)
    have k7 : Kp w.heap.size (w.heap.size + 1) w6 w7 := by rw [← hw7]; exact Kp.of_row w6 g5 r (Value.slice (some ⟨gv', 0, none⟩) (C [6, q, r] + 1) cap4) lo5
    have f6 : w6.heap[w2.heap.size]? = w3.heap[w2.heap.size]? := HQ6.out _ (by omega) (fun g hg => by have := HI.out.R.ownLt hg; omega)
    have f7 : w7.heap[w2.heap.size]? = w3.heap[w2.heap.size]? := by rw [← hw7]; exact (heap_setCell_other _ _ _ _ (by simp; omega)).trans f6
    have hB6 : PBx w6 w.heap.size V := (((HB3.out.mono hlo).trans HB6.out).block _ (by omega)).trans HI.out.hB
    have hB7 : PBx w7 w.heap.size V := by
      have e : w7.heap[w.heap.size]? = w6.heap[w.heap.size]? := by rw [← hw7]; exact heap_setCell_other _ _ _ _ (by simp; omega)
      exact e.trans hB6
    have hsz := k7.2.2.2.1
    have eC : (upd C [6, q, r] (C [6, q, r] + 1)) [2, q, r] = nw q r := (upd_other _ _ (ne_head (by omega))).trans (HI.out.ps.2.2.2.1 q r).1
    have eX0 : (upd (upd X [6, q, r] (X [6, q, r] ++ [.int .i64 0])) [5, q] ((X [5, q]).set r (Value.slice (some ⟨gv', 0, none⟩) (C [6, q, r] + 1) cap4))) [0] = X [0] := by rw [upd_other _ _ (ne_head (by omega)), upd_other _ _ (ne_head (by omega))]
    have eX1 : (upd (upd X [6, q, r] (X [6, q, r] ++ [.int .i64 0])) [5, q] ((X [5, q]).set r (Value.slice (some ⟨gv', 0, none⟩) (C [6, q, r] + 1) cap4))) [1, q] = X [1, q] := by rw [upd_other _ _ (ne_head (by omega)), upd_other _ _ (ne_head (by omega))]
    have eV0 : (upd V [6, q, r] (Value.slice (some ⟨gv', 0, none⟩) (C [6, q, r] + 1) cap4)) [0] = .slice (some ⟨g0, 0, none⟩) (q + 1) k0 := (upd_other _ _ (ne_head (by omega))).trans HE.out.2.1
    have eV1 : (upd V [6, q, r] (Value.slice (some ⟨gv', 0, none⟩) (C [6, q, r] + 1) cap4)) [1, q] = V [1, q] := upd_other _ _ (ne_head (by omega))
    have eV2 : (upd V [6, q, r] (Value.slice (some ⟨gv', 0, none⟩) (C [6, q, r] + 1) cap4)) [2, q, r] = V [2, q, r] := upd_other _ _ (ne_head (by omega))
    have KKK := hide (And.intro (k6'.trans k7) (And.intro f7 (And.intro hB7 (And.intro R7 (And.intro eC (And.intro eX0 (And.intro eX1 (And.intro eV0 (And.intro eV1 eV2)))))))))
    clear R7 hw7 k6' k7 f6 f7 hB6 hB7 eC eX0 eX1 eV0 eV1 eV2
    go_wp2_with fail
    obtain ⟨kk, f7, hB7, R7, eC, eX0, eX1, eV0, eV1, eV2⟩ := KKK.out
    refine (parse_warp w7 own6 (w.heap.size + 1) w.heap.size w2.heap.size 2 _ _ _ ((k : Int) + 2) R7 (hB7.same (by rfl) (by rfl) (by rfl)) (by omega) (by omega) (by omega) g0 q k0 g1 r k1 a2 k2 l (by omega) (by omega) eV0 (by rw [eV1]; exact HE.out.2.2.1) (by rw [eC, eV2]; exact HE.out.2.2.2.1) (by rw [eX0, eV1]; exact (HI.out.ps.2.1 q (by omega)).2) (by rw [eX1, eV2]; exact (HI.out.ps.2.2.1 q).2 r (by omega)) (by rw [eC]; omega) (by rw [eC]; exact HN.out) (cell_kept f7 HF3.out.1) (cell_kept f7 HF3.out.2)).mono ?_
    rintro e w8 ⟨rfl, hk8, own8, v1, R8, hB8⟩
    have HK8 : Hid (Kp w.heap.size (w.heap.size + 1) wr w8) := hide (kk.trans hk8)
    have HR8 := hide R8
    have HB8 := hide hB8
    clear hk8 R8 hB8 kk f7 hB7 R7 eC eX0 eX1 eV0 eV1 eV2
    go_wp2_with fail
    refine HK.out _ w8 (HI.out.res_warp ?_ rfl ?_ rfl rfl rfl hr rfl rfl rfl HK8.out HR8.out HB8.out)
    · kernel_rfl
    · exact HV4.out.symm)
end Go.Proofs.YbulkmvuFmt
