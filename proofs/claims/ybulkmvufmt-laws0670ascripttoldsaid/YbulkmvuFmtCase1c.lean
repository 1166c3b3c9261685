/-
  The round of 'LawS0670AScript': a cta line in its order.
-/
import Derived.Test.YbulkmvuFmtClose
namespace Go.Proofs.YbulkmvuFmt
open Go.RowKit Go.Extern.Stop Go.Stop Go.Extern
set_option linter.unusedVariables false

set_option maxHeartbeats 4000000 in
set_option maxRecDepth 1000000 in
theorem case1_even (F : Interp) (a0 : Option Addr) (n c k b off : Nat) (u : Nat → Value) (w wr : World) (s : St3) (own : Nat → List Nat) (V : List Nat → Value) (C : List Nat → Nat) (X : List Nat → List Value) (nk : Nat) (nc : Nat → Nat) (nw : Nat → Nat → Nat) (ni : Nat → Nat → Nat → Nat) (nm : Nat → ByteArray) (na : Nat) (K : Act → World → Prop) (Q : Exit → Act → World → Prop) (h : In F a0 n c k b off u w wr s own V C X nk nc nw ni nm na) (hop : (s.op : Int).tmod 7 = 1) (hnk : 0 < nk) (hN : (s.n : Int).tmod 2 = 0)
    (hK : ∀ arr w', Res a0 n c w k arr w' → K ⟨arr, []⟩ w') :
    Code.wp Ybaf.prog ((Ybaf.f4.body.bind firstLoop).getD .skip) (Exit.then K Q) ⟨frame a0 n c w.heap.size u, []⟩ wr := by
  obtain ⟨o1, o2, o3⟩ := h.hok
  have i1 : (s.op : Int) ≤ 255 := by omega
  have i2 : (s.n : Int) ≤ 255 := by omega
  have i3 : (s.a : Int) ≤ 18446744073709551615 := by omega
  have hu := h.hu
  have hkn := h.hkn
  have hn := h.hn
  have hlo := h.hlo
  have hb1 := h.b1
  have hu4 := h.hu4
  obtain ⟨m0, mm, hv4⟩ := h.R.val [4]
  rw [h.ms.1] at hv4
  obtain ⟨i27, hi27, hz270, hz271, hz272⟩ := info_parts info27
  obtain ⟨q, rfl⟩ : ∃ q, nk = q + 1 := ⟨nk - 1, by omega⟩
  obtain ⟨g4, k4, a5, k5, g0, k0, a1, k1, e4, t4, e5, x4, e0, t0, e1, x0, f4⟩ := h.lastK
  have hnc := h.b2 q
  have r4 := cell_old t4 x4
  have hp1 : (0 : Int) < (q : Int) + 1 := by omega
  have hp2 : (q : Int) < (q : Int) + 1 := by omega
  have hp3 : (0 : Int) ≤ (q : Int) := by omega
  have hp4 : IntKind.i64.wrap ((q : Int) + 1 - 1) = (q : Int) := by rw [IntWalk.i64_in _ (by omega)]; omega
  have hp5 : IntKind.i64.wrap (q : Int) = (q : Int) := IntWalk.i64_in _ (by omega)
  have hp6 : (nc q : Int) ≤ 512 := by omega
  have hp7 : (q : Int) ≤ 512 := by omega
  have HE : Hid (V [5, q] = .slice a5 (nc q) k5 ∧ V [0] = .slice (some ⟨g0, 0, none⟩) (q + 1) k0 ∧ V [1, q] = .slice a1 (nc q) k1 ∧ wr.cell? ⟨g0, q * 2 + 1, none⟩ = some (.slice a1 (nc q) k1) ∧ (∀ j, wr.frozen? ⟨g4, j, none⟩ = false) ∧ wr.cell? ⟨g4, q, none⟩ = some (.slice a5 (nc q) k5)) := hide ⟨e5, e0, e1, x0, f4, x4⟩
  clear hv4
  have hv4 := e4
  clear e4 e5 e0 e1 x0 f4 x4
  obtain rfl := h.ha
  have c0 := h.c0
  have c1 := h.c1
  have c2 := h.c2
  unfold frame
  rw [hu, hu4, hv4]
  conv => arg 2; whnf
  have HK := hide hK
  have HI := hide h
  have HV4 := hide hv4
  clear hK h hv4 hu hu4
  go_wp2_with fail
  all_goals (
    generalize hw1 : wr.alloc _ = w1
    have hb1 : Below wr.heap.size wr w1 := by rw [← hw1]; exact (Below.refl _ _).alloc (Nat.le_refl _) _
    have hp1 : Pow w1 := by rw [← hw1]; exact Lib.tabIs_alloc HI.out.hP _
    have hs1 : w1.heap.size = wr.heap.size + 1 := by rw [← hw1]; simp
    have y1 : w1.cell? ⟨wr.heap.size, 1, none⟩ = some (.int .u8 s.n) := by rw [← hw1]; exact (boxed_cell3 wr _ _ _ 38).2.1
    refine (itoa_num (nc q) (by omega) w1 hp1).mono ?_
    rintro e w2 ⟨l, rfl, hb2, hnum⟩
    have HB2 : Hid (Below wr.heap.size wr w2) := hide (hb1.trans (hb2.mono hb1.size))
    have hs2 : wr.heap.size + 1 ≤ w2.heap.size := by have := hb2.size; omega
    have y2 : w2.cell? ⟨wr.heap.size, 1, none⟩ = some (.int .u8 s.n) := cell_below hb2 (by omega) y1
    have z2 : ∀ o, (w2.alloc o).cell? ⟨wr.heap.size, 1, none⟩ = some (.int .u8 s.n) := cell_old (by omega) y2
    have HN := hide hnum
    clear hw1 hb1 hp1 y1 hb2 hnum c0 c1 c2 hs1
    have y4 : ∀ o, (w2.alloc o).cell? ⟨g4, q, none⟩ = some (.slice a5 (nc q) k5) := cell_old (by omega) (cell_below HB2.out t4 HE.out.2.2.2.2.2)
    clear r4
    go_wp2_with (first | (refine wpList_append_stop rfl _ _ 41 rfl ?_) | fail)
    refine ⟨1, rfl, ?_⟩
    generalize hw3 : w2.alloc _ = w3
    have hb3 : Below wr.heap.size wr w3 := by rw [← hw3]; exact HB2.out.alloc (by omega) _
    have hs3 : w3.heap.size = w2.heap.size + 1 := by rw [← hw3]; simp
    have f3 : w3.cell? ⟨w2.heap.size, 0, none⟩ = some (.string ⟨#[99, 116, 97]⟩) ∧ w3.cell? ⟨w2.heap.size, 1, none⟩ = some (.string ⟨l.toArray⟩) := by rw [← hw3]; exact boxed_cell2 w2 _ _ 9
    have HF3 := hide f3
    have HB3 := hide hb3
    clear hw3 hb3 f3 y4 z2 y2
    have hc5 := (HI.out.ms.2.2.1 q).1
    have R3 : Rws (w3.alloc (.cells #[.slice none 0 0] 27)) own (w.heap.size + 1) V C X := (HI.out.R.below HB3.out).below ((Below.refl _ _).alloc (Nat.le_refl _) _)
    refine wpList_append_rws' rfl (.tmp 128) (.tmp 129) 41 rfl [5, q] i27 _ 24 Ybaf.underlying41 hi27 hz270 hz271 hz272 rfl (by show 0 < 1; omega) ?hs R3 ⟨w3.heap.size, 0, none⟩ 1 [.slice none 0 0] ?hx rfl ?hn ?h1 (by omega) (by omega) ?hl ?_
    case hs => exact HE.out.1.symm
    case hx => rw [hs3]; rfl
    case hn =>
      intro j u' hu'
      have hj : j = 0 := by have := (List.getElem?_eq_some_iff.1 hu').1; simpa using this
      subst hj
      simp at hu'
      subst hu'
      exact boxed_cell w3 _ 27
    case h1 => intro u' hu'; simp at hu'; subst hu'; rfl
    case hl => simp; omega
    intro v5 w4 own4 R4 hb4 hs4 hk4 hv5
    obtain ⟨g5, cap5, rfl⟩ := hv5
    have hs4' : w3.heap.size + 1 ≤ w4.heap.size := by have := hs4; simp at this; omega
    have f4 : w4.heap[w2.heap.size]? = w3.heap[w2.heap.size]? := (hk4 _ (by simp; omega) (fun g hg => by have := HI.out.R.ownLt hg; omega)).trans (Below.heap_alloc _ _ _ (by omega))
    have ev4 : (upd V [5, q] (Value.slice (some ⟨g5, 0, none⟩) (C [5, q] + 1) cap5)) [4] = .slice (some ⟨g4, 0, none⟩) (q + 1) k4 := (upd_other _ _ (ne_head (by omega))).trans HV4.out
    have ex4 : (upd X [5, q] (X [5, q] ++ [.slice none 0 0])) [4] = X [4] := upd_other _ _ (ne_head (by omega))
    have d4 : w4.cell? ⟨g4, q, none⟩ = some (.slice a5 (nc q) k5) := (R4.cellAt ev4 (by rw [ex4, ← HE.out.1]; exact HI.out.ms.2.1 q (by omega))).2
    have fz4 : w4.frozen? ⟨g4, q, none⟩ = false := R4.frozenAt ev4 q
    have lo4 : w.heap.size + 1 ≤ g4 := R4.rowLo ev4
    have R5 := R4.set [4] g4 k4 (q + 1) q (Value.slice (some ⟨g5, 0, none⟩) (C [5, q] + 1) cap5) ev4
    rw [ex4] at R5
    have hb4' : Below (w.heap.size + 1) wr w4 := (HB3.out.mono hlo).trans (((Below.refl (w.heap.size + 1) w3).alloc (by omega) _).trans hb4)
    have HR5 := hide R5
    have HB4 := hide hb4'
    have HF4 := hide f4
    clear R4 hb4 hb4' R3 f4 hk4 ev4 ex4 R5 hc5
    go_wp2_with fail
    generalize hw5 : w4.setCell _ _ = w5
    have R5 := HR5.out
    rw [hw5] at R5
    have k5' : Kp w.heap.size (w.heap.size + 1) w4 w5 := by rw [← hw5]; exact Kp.of_row w4 g4 q (Value.slice (some ⟨g5, 0, none⟩) (C [5, q] + 1) cap5) lo4
    have f5 : w5.heap[w2.heap.size]? = w3.heap[w2.heap.size]? := by rw [← hw5]; exact (heap_setCell_other _ _ _ _ (by simp; omega)).trans HF4.out
    have hB5 : PBx w5 w.heap.size V := by
      have e : w5.heap[w.heap.size]? = w4.heap[w.heap.size]? := by rw [← hw5]; exact heap_setCell_other _ _ _ _ (by simp; omega)
      exact e.trans ((HB4.out.block _ (by omega)).trans HI.out.hB)
    have hsz := k5'.2.2.2.1
    have eC : (upd C [5, q] (C [5, q] + 1)) [1, q] = nc q := (upd_other _ _ (ne_head (by omega))).trans (HI.out.ps.2.2.1 q).1
    have eX : (upd (upd X [5, q] (X [5, q] ++ [.slice none 0 0])) [4] ((X [4]).set q (Value.slice (some ⟨g5, 0, none⟩) (C [5, q] + 1) cap5))) [0] = X [0] := by rw [upd_other _ _ (ne_head (by omega)), upd_other _ _ (ne_head (by omega))]
    have eV0 : (upd V [5, q] (Value.slice (some ⟨g5, 0, none⟩) (C [5, q] + 1) cap5)) [0] = .slice (some ⟨g0, 0, none⟩) (q + 1) k0 := (upd_other _ _ (ne_head (by omega))).trans HE.out.2.1
    have eV1 : (upd V [5, q] (Value.slice (some ⟨g5, 0, none⟩) (C [5, q] + 1) cap5)) [1, q] = V [1, q] := upd_other _ _ (ne_head (by omega))
    refine (parse_cta w5 own4 (w.heap.size + 1) w.heap.size w2.heap.size 2 _ _ _ ((k : Int) + 2) R5 (hB5.same (by rfl) (by rfl) (by rfl)) (by omega) (by omega) (by omega) g0 q k0 a1 k1 l (by omega) eV0 (by rw [eC, eV1]; exact HE.out.2.2.1) (by rw [eX, eV1]; exact (HI.out.ps.2.1 q (by omega)).2) (by rw [eC]; omega) (by rw [eC]; exact HN.out) (cell_kept f5 HF3.out.1) (cell_kept f5 HF3.out.2)).mono ?_
    rintro e w6 ⟨rfl, hk6, own6, v1, R7, hB7⟩
    have HK6 : Hid (Kp w.heap.size (w.heap.size + 1) wr w6) := hide (((Kp.of_below HB4.out (by omega)).trans k5').trans hk6)
    have HR7 := hide R7
    have HB7 := hide hB7
    clear hk6 R7 hB7 R5 hw5 k5' f5 hB5 eC eX eV0 eV1 d4 fz4
    go_wp2_with fail
    refine HK.out _ w6 (HI.out.res_cta ?_ rfl ?_ rfl rfl rfl rfl rfl rfl HK6.out HR7.out HB7.out)
    · kernel_rfl
    · exact HV4.out.symm)
end Go.Proofs.YbulkmvuFmt
