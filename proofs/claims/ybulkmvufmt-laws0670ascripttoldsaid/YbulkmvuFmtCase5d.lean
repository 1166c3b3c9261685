/-
  The round of 'LawS0670AScript': an alloc line in its order.
-/
import Derived.Test.YbulkmvuFmtStays
namespace Go.Proofs.YbulkmvuFmt
open Go.RowKit Go.Extern.Stop Go.Stop Go.Extern
set_option linter.unusedVariables false

set_option maxHeartbeats 4000000 in
set_option maxRecDepth 1000000 in
theorem case5_ok (F : Interp) (a0 : Option Addr) (n c k b off : Nat) (u : Nat → Value) (w wr : World) (s : St3) (own : Nat → List Nat) (V : List Nat → Value) (C : List Nat → Nat) (X : List Nat → List Value) (nk : Nat) (nc : Nat → Nat) (nw : Nat → Nat → Nat) (ni : Nat → Nat → Nat → Nat) (nm : Nat → ByteArray) (na : Nat) (K : Act → World → Prop) (Q : Exit → Act → World → Prop) (h : In F a0 n c k b off u w wr s own V C X nk nc nw ni nm na) (hop : (s.op : Int).tmod 7 = 5) (hnk : nk = 0) (hn0 : 0 < s.n) (hle : s.n ≤ 18446744073709551615 - s.a)
    (hK : ∀ arr w', Res a0 n c w k arr w' → K ⟨arr, []⟩ w') :
    Code.wp Ybaf.prog ((Ybaf.f4.body.bind firstLoop).getD .skip) (Exit.then K Q) ⟨frame a0 n c w.heap.size u, []⟩ wr := by
  obtain ⟨o1, o2, o3⟩ := h.hok
  have i1 : (s.op : Int) ≤ 255 := by omega
  have i2 : (s.n : Int) ≤ 255 := by omega
  have i3 : (s.a : Int) ≤ 18446744073709551615 := by omega
  have hu := h.hu
  have hkn := h.hkn
  have hn := h.hn
  have hlo := h.hlo
  have hb1 := h.b1
  have hu4 := h.hu4
  obtain ⟨m0, mm, hv4⟩ := h.R.val [4]
  rw [h.ms.1] at hv4
  subst hnk
  obtain ⟨x0, xk, hv0⟩ := h.nk0
  have HV0 := hide hv0
  clear hv0
  have hz : (0 : Int) < (s.n : Int) := by omega
  have hz2 : (s.n : Int) ≤ 18446744073709551615 - (s.a : Int) := by omega
  obtain ⟨i44, hi44, hz440, hz441, hz442⟩ := info_parts info44
  obtain ⟨i3', hi3, hz30, hz31, hz32⟩ := info_parts info3
  have hu6 := h.hu6
  have hu7 := h.hu7
  have hna := h.b5
  obtain rfl := h.ha
  have c0 := h.c0
  have c1 := h.c1
  have c2 := h.c2
  unfold frame
  rw [hu, hu4, hv4, hu6, hu7]
  conv => arg 2; whnf
  have HK := hide hK
  have HI := hide h
  have HV4 := hide hv4
  clear hK h hv4 hu hu4
  go_wp2_with fail
  all_goals (
    generalize hw1 : wr.alloc _ = w1
    have hb1 : Below wr.heap.size wr w1 := by rw [← hw1]; exact (Below.refl _ _).alloc (Nat.le_refl _) _
    have hp1 : Pow w1 := by rw [← hw1]; exact Lib.tabIs_alloc HI.out.hP _
    have hr1 : Bru w1 := bru_below HI.out.hBr hb1
    have hs1 : w1.heap.size = wr.heap.size + 1 := by rw [← hw1]; simp
    have y1 : w1.cell? ⟨wr.heap.size, 2, none⟩ = some (.int .u64 s.a) := by rw [← hw1]; exact (boxed_cell3 wr _ _ _ 38).2.2
    refine (format_hex s.a (by omega) w1 hr1).mono ?_
    rintro e w2 ⟨l, rfl, hb2, hnum⟩
    have HB2 : Hid (Below wr.heap.size wr w2) := hide (hb1.trans (hb2.mono hb1.size))
    have hs2 : wr.heap.size + 1 ≤ w2.heap.size := by have := hb2.size; omega
    have y2 : w2.cell? ⟨wr.heap.size, 2, none⟩ = some (.int .u64 s.a) := cell_below hb2 (by omega) y1
    have hll : ¬ 9223372036854775807 < 2 + l.length := by have := hnum.2.1; omega
    have HN1 := hide hnum
    have HP2 : Hid (Pow w2) := hide (pow_below hp1 hb2)
    clear hw1 hb1 hp1 hr1 y1 hb2 hnum c0 c1 c2 hs1
    go_wp2_with fail
    refine (format_dec s.n (by omega) w2 HP2.out).mono ?_
    rintro e w3 ⟨l2, rfl, hb3, hnum2⟩
    have HB3 : Hid (Below wr.heap.size wr w3) := hide (HB2.out.trans (hb3.mono HB2.out.size))
    have hs3 : wr.heap.size + 1 ≤ w3.heap.size := by have := hb3.size; omega
    have y3 : w3.cell? ⟨wr.heap.size, 2, none⟩ = some (.int .u64 s.a) := cell_below hb3 (by omega) y2
    have z3 : ∀ o, (w3.alloc o).cell? ⟨wr.heap.size, 2, none⟩ = some (.int .u64 s.a) := cell_old (by omega) y3
    have HN2 := hide hnum2
    clear hb3 hnum2 y2 HP2 HB2
    go_wp2_with (first | (refine wpList_append_stop rfl _ _ 23 rfl ?_) | fail)
    refine ⟨1, rfl, ?_⟩
    generalize hw4 : w3.alloc _ = w4
    have hb4 : Below wr.heap.size wr w4 := by rw [← hw4]; exact HB3.out.alloc (by omega) _
    have hs4 : w4.heap.size = w3.heap.size + 1 := by rw [← hw4]; simp
    have f4 : w4.cell? ⟨w3.heap.size, 0, none⟩ = some (.string ⟨#[97, 108, 108, 111, 99]⟩) ∧ w4.cell? ⟨w3.heap.size, 1, none⟩ = some (.string ⟨(48 :: 120 :: l).toArray⟩) ∧ w4.cell? ⟨w3.heap.size, 2, none⟩ = some (.string ⟨l2.toArray⟩) := by rw [← hw4, ← hex_str]; exact boxed_cell3 w3 _ _ _ 9
    have HF4 := hide f4
    have HB4 := hide hb4
    clear hw4 hb4 f4
    have R4 : Rws (w4.alloc (.cells #[.int .u64 s.a, .int .u64 s.n] 44)) own (w.heap.size + 1) V C X := (HI.out.R.below HB4.out).below ((Below.refl _ _).alloc (Nat.le_refl _) _)
    have hc10 : C [10] ≤ 600 := by rw [HI.out.al.2.2.1]; omega
    have hc11 : C [11] ≤ 600 := by rw [HI.out.al.2.2.2.1]; omega
    refine wpList_append_rws' rfl (.tmp 321) (.tmp 326) 23 rfl [10] i44 _ 16 Ybaf.underlying23 hi44 hz440 hz441 hz442 rfl (by decide) ?hs R4 ⟨w4.heap.size, 0, none⟩ 1 [.int .u64 s.a, .int .u64 s.n] ?hx rfl ?hn ?h1 (by omega) (by omega) ?hl ?_
    case hs => rfl
    case hx => rw [hs4]; rfl
    case hn =>
      intro j u' hu'
      have hj : j < 2 := by have := (List.getElem?_eq_some_iff.1 hu').1; simpa using this
      have hj2 : j = 0 ∨ j = 1 := by omega
      rcases hj2 with rfl | rfl
      · simp at hu'; subst hu'; exact (boxed_cell2 w4 _ _ 44).1
      · simp at hu'; subst hu'; exact (boxed_cell2 w4 _ _ 44).2
    case h1 => intro u' hu'; simp at hu'; rcases hu' with rfl | rfl <;> rfl
    case hl => simp; omega
    intro v10 w5 own5 R5 hb5 hs5 hk5 hv10
    obtain ⟨g10, cap10, rfl⟩ := hv10
    have hs5' : w4.heap.size + 1 ≤ w5.heap.size := by have := hs5; simp at this; omega
    have f5 : w5.heap[w3.heap.size]? = w4.heap[w3.heap.size]? := (hk5 _ (by simp; omega) (fun g hg => by have := HI.out.R.ownLt hg; omega)).trans (Below.heap_alloc _ _ _ (by omega))
    have HR5 := hide R5
    have HB5 := hide hb5
    have HF5 := hide f5
    clear R5 hb5 R4 f5 hk5 y3 z3
    go_wp2_with (first | (refine wpList_append_stop rfl _ _ 27 rfl ?_) | fail)
    refine ⟨1, rfl, ?_⟩
    have R6 : Rws (w5.alloc (.cells #[.int .i64 ((k : Int) + 2)] 3)) own5 (w.heap.size + 1) (upd V [10] (Value.slice (some ⟨g10, 0, none⟩) (C [10] + 1) cap10)) (upd C [10] (C [10] + 1)) (upd X [10] (X [10] ++ [.int .u64 s.a, .int .u64 s.n])) := HR5.out.below ((Below.refl _ _).alloc (Nat.le_refl _) _)
    have hv11 : upd V [10] (Value.slice (some ⟨g10, 0, none⟩) (C [10] + 1) cap10) [11] = V [11] := upd_other _ _ (by decide)
    have hd11 : upd C [10] (C [10] + 1) [11] = C [11] := upd_other _ _ (by decide)
    have hx11 : upd X [10] (X [10] ++ [.int .u64 s.a, .int .u64 s.n]) [11] = X [11] := upd_other _ _ (by decide)
    refine wpList_append_rws' rfl (.tmp 328) (.tmp 330) 27 rfl [11] i3' _ 8 Ybaf.underlying27 hi3 hz30 hz31 hz32 rfl (by decide) ?hs R6 ⟨w5.heap.size, 0, none⟩ 1 [.int .i64 ((k : Int) + 2)] ?hx rfl ?hn ?h1 (by rw [hd11]; omega) (by omega) ?hl ?_
    case hs => rw [hv11]; rfl
    case hx => rfl
    case hn =>
      intro j u' hu'
      have hj : j = 0 := by have := (List.getElem?_eq_some_iff.1 hu').1; simpa using this
      subst hj
      simp at hu'
      subst hu'
      exact boxed_cell w5 _ 3
    case h1 => intro u' hu'; simp at hu'; subst hu'; rfl
    case hl => simp; omega
    intro v11 w6 own6 R7 hb7 hs7 hk7 hv11'
    rw [hd11] at hv11'
    obtain ⟨g11, cap11, rfl⟩ := hv11'
    rw [hd11, hx11] at R7
    have hs7' : w5.heap.size + 1 ≤ w6.heap.size := by have := hs7; simp at this; omega
    have hb6 : Below (w.heap.size + 1) wr w6 := (HB4.out.mono hlo).trans ((((Below.refl (w.heap.size + 1) w4).alloc (by omega) _).trans HB5.out).trans (((Below.refl (w.heap.size + 1) w5).alloc (by omega) _).trans hb7))
    have f6 : w6.heap[w3.heap.size]? = w4.heap[w3.heap.size]? := ((hk7 _ (by simp; omega) (fun g hg => by rw [hv11] at hg; have := HI.out.R.ownLt hg; omega)).trans (Below.heap_alloc _ _ _ (by omega))).trans HF5.out
    have HR7 := hide R7
    have HB6 := hide hb6
    have HF6 := hide f6
    clear R7 hb7 hb6 R6 hv11 hd11 hx11 hk7 f6
    go_wp2_with fail
    have eV0 : (upd (upd V [10] (Value.slice (some ⟨g10, 0, none⟩) (C [10] + 1) cap10)) [11] (Value.slice (some ⟨g11, 0, none⟩) (C [11] + 1) cap11)) [0] = .slice x0 0 xk := by rw [upd_other _ _ (by decide), upd_other _ _ (by decide)]; exact HV0.out
    have hC8 : (upd (upd C [10] (C [10] + 1)) [11] (C [11] + 1)) [8] ≤ 2000 := by rw [upd_other _ _ (by decide), upd_other _ _ (by decide), HI.out.al.1]; omega
    have hC9 : (upd (upd C [10] (C [10] + 1)) [11] (C [11] + 1)) [9] ≤ 2000 := by rw [upd_other _ _ (by decide), upd_other _ _ (by decide), HI.out.al.2.1]; omega
    refine (parse_alloc w6 own6 (w.heap.size + 1) w.heap.size w3.heap.size 3 _ _ _ ((k : Int) + 2) HR7.out (PBx.same (V := V) ((HB6.out.block _ (by omega)).trans HI.out.hB) (by rfl) (by rfl) (by rfl)) (by omega) (by omega) (by omega) (by omega) x0 xk eV0 s.a s.n l l2 (by omega) (by omega) HN1.out HN2.out hn0 hle hC8 hC9 (cell_kept HF6.out HF4.out.1) (cell_kept HF6.out HF4.out.2.1) (cell_kept HF6.out HF4.out.2.2)).mono ?_
    rintro e w7 ⟨rfl, hk8, own8, v8, v9, R8, hB8⟩
    have HK8 : Hid (Kp w.heap.size (w.heap.size + 1) wr w7) := hide ((Kp.of_below HB6.out (by omega)).trans hk8)
    have HR8 := hide R8
    have HB8 := hide hB8
    clear hk8 R8 hB8 eV0 hC8 hC9
    go_wp2_with fail
    refine HK.out _ w7 (HI.out.res_alloc ?_ rfl ?_ rfl rfl rfl rfl rfl rfl HK8.out HR8.out HB8.out)
    · kernel_rfl
    · exact HV4.out.symm)
end Go.Proofs.YbulkmvuFmt
