/-
  The round of 'LawS0670AScript': a kernel line.
-/
import Derived.Test.YbulkmvuFmtClose
namespace Go.Proofs.YbulkmvuFmt
open Go.RowKit Go.Extern.Stop Go.Stop Go.Extern
set_option linter.unusedVariables false

set_option maxHeartbeats 4000000 in
set_option maxRecDepth 1000000 in
theorem case0 (F : Interp) (a0 : Option Addr) (n c k b off : Nat) (u : Nat → Value) (w wr : World) (s : St3) (own : Nat → List Nat) (V : List Nat → Value) (C : List Nat → Nat) (X : List Nat → List Value) (nk : Nat) (nc : Nat → Nat) (nw : Nat → Nat → Nat) (ni : Nat → Nat → Nat → Nat) (nm : Nat → ByteArray) (na : Nat) (K : Act → World → Prop) (Q : Exit → Act → World → Prop) (h : In F a0 n c k b off u w wr s own V C X nk nc nw ni nm na) (hop : (s.op : Int).tmod 7 = 0)
    (hK : ∀ arr w', Res a0 n c w k arr w' → K ⟨arr, []⟩ w') :
    Code.wp Ybaf.prog ((Ybaf.f4.body.bind firstLoop).getD .skip) (Exit.then K Q) ⟨frame a0 n c w.heap.size u, []⟩ wr := by
  obtain ⟨o1, o2, o3⟩ := h.hok
  have i1 : (s.op : Int) ≤ 255 := by omega
  have i2 : (s.n : Int) ≤ 255 := by omega
  have i3 : (s.a : Int) ≤ 18446744073709551615 := by omega
  have hu := h.hu
  have hkn := h.hkn
  have hn := h.hn
  have hlo := h.hlo
  have hb1 := h.b1
  have hu4 := h.hu4
  obtain ⟨m0, mm, hv4⟩ := h.R.val [4]
  rw [h.ms.1] at hv4
  obtain ⟨i41, hi41, hz410, hz411, hz412⟩ := info_parts info41
  obtain ⟨i9, hi9, hz90, hz91, hz92⟩ := info_parts info9
  have hu5 := h.hu5
  obtain rfl := h.ha
  have c0 := h.c0
  have c1 := h.c1
  have c2 := h.c2
  unfold frame
  rw [hu, hu4, hv4, hu5]
  conv => arg 2; whnf
  have HK := hide hK
  have HI := hide h
  have HV4 := hide hv4
  clear hK h hv4 hu hu4
  go_wp2_with fail
  all_goals (
    generalize hw1 : wr.alloc _ = w1
    have hb1 : Below wr.heap.size wr w1 := by rw [← hw1]; exact (Below.refl _ _).alloc (Nat.le_refl _) _
    have hp1 : Pow w1 := by rw [← hw1]; exact Lib.tabIs_alloc HI.out.hP _
    have hs1 : w1.heap.size = wr.heap.size + 1 := by rw [← hw1]; simp
    have y1 : w1.cell? ⟨wr.heap.size, 1, none⟩ = some (.int .u8 s.n) := by rw [← hw1]; exact (boxed_cell3 wr _ _ _ 38).2.1
    refine (itoa_num s.n (by omega) w1 hp1).mono ?_
    rintro e w2 ⟨l, rfl, hb2, hnum⟩
    have HB2 : Hid (Below wr.heap.size wr w2) := hide (hb1.trans (hb2.mono hb1.size))
    have hs2 := HB2.out.size
    have hll : ¬ 9223372036854775807 < 1 + l.length := by have := hnum.2.1; omega
    clear hw1 hb1 hp1 y1 hb2 hnum c0 c1 c2 hs1
    go_wp2_with (first | (refine wpList_append_stop rfl _ _ 35 rfl ?_) | fail)
    refine ⟨1, rfl, ?_⟩
    generalize hw3 : w2.alloc _ = w3
    have hb3 : Below wr.heap.size wr w3 := by rw [← hw3]; exact HB2.out.alloc hs2 _
    have hs3 : w3.heap.size = w2.heap.size + 1 := by rw [← hw3]; simp
    have f3 : w3.cell? ⟨w2.heap.size, 0, none⟩ = some (.string ⟨#[107, 101, 114, 110, 101, 108]⟩) ∧ w3.cell? ⟨w2.heap.size, 1, none⟩ = some (.string (⟨#[107]⟩ ++ ⟨l.toArray⟩)) := by rw [← hw3]; exact boxed_cell2 w2 _ _ 9
    have HF3 := hide f3
    have HB3 := hide hb3
    clear hw3 hb3 f3
    have R3 : Rws (w3.alloc (.cells #[.slice none 0 0] 41)) own (w.heap.size + 1) V C X := (HI.out.R.below HB3.out).below ((Below.refl _ _).alloc (Nat.le_refl _) _)
    refine wpList_append_rws' rfl (.tmp 87) (.tmp 88) 35 rfl [4] i41 _ 24 Ybaf.underlying35 hi41 hz410 hz411 hz412 rfl (by decide) ?hs R3 ⟨w3.heap.size, 0, none⟩ 1 [.slice none 0 0] ?hx rfl ?hn ?h1 (by have := HI.out.ms.1; omega) (by omega) ?hl ?_
    case hs => exact HV4.out.symm
    case hx => rw [hs3]; rfl
    case hn =>
      intro j u' hu'
      have hj : j = 0 := by have := (List.getElem?_eq_some_iff.1 hu').1; simpa using this
      subst hj
      simp at hu'
      subst hu'
      exact boxed_cell w3 _ 41
    case h1 => intro u' hu'; simp at hu'; subst hu'; rfl
    case hl => simp; omega
    intro v4 w4 own4 R4 hb4 hs4 hk4 hv4
    obtain ⟨g4, cap4, rfl⟩ := hv4
    have hs4' : w3.heap.size + 1 ≤ w4.heap.size := by have := hs4; simp at this; omega
    have f4 : w4.heap[w2.heap.size]? = w3.heap[w2.heap.size]? := (hk4 _ (by simp; omega) (fun g hg => by have := HI.out.R.ownLt hg; omega)).trans (Below.heap_alloc _ _ _ (by omega))
    have HR4 := hide R4
    have HB4 := hide hb4
    have HF4 := hide f4
    clear R4 hb4 R3 f4 hk4
    go_wp2_with (first | (refine wpList_append_stop rfl _ _ 22 rfl ?_) | fail)
    refine ⟨1, rfl, ?_⟩
    have R5 : Rws (w4.alloc (.cells #[.string (⟨#[107]⟩ ++ ⟨l.toArray⟩)] 9)) own4 (w.heap.size + 1) (upd V [4] (.slice (some ⟨g4, 0, none⟩) (C [4] + 1) cap4)) (upd C [4] (C [4] + 1)) (upd X [4] (X [4] ++ [.slice none 0 0])) := HR4.out.below ((Below.refl _ _).alloc (Nat.le_refl _) _)
    have hv7 : upd V [4] (.slice (some ⟨g4, 0, none⟩) (C [4] + 1) cap4) [7] = V [7] := upd_other _ _ (by decide)
    have hc7 : upd C [4] (C [4] + 1) [7] = C [7] := upd_other _ _ (by decide)
    have hx7 : upd X [4] (X [4] ++ [.slice none 0 0]) [7] = X [7] := upd_other _ _ (by decide)
    refine wpList_append_rws' rfl (.tmp 90) (.tmp 92) 22 rfl [7] i9 _ 16 Ybaf.underlying22 hi9 hz90 hz91 hz92 rfl (by decide) ?hs R5 ⟨w4.heap.size, 0, none⟩ 1 [.string (⟨#[107]⟩ ++ ⟨l.toArray⟩)] ?hx rfl ?hn ?h1 (by rw [hc7]; have := HI.out.ms.2.2.2.2.1; omega) (by omega) ?hl ?_
    case hs => rw [hv7]; rfl
    case hx => rfl
    case hn =>
      intro j u' hu'
      have hj : j = 0 := by have := (List.getElem?_eq_some_iff.1 hu').1; simpa using this
      subst hj
      simp at hu'
      subst hu'
      exact boxed_cell w4 _ 9
    case h1 => intro u' hu'; simp at hu'; subst hu'; rfl
    case hl => simp; omega
    intro v7 w5 own5 R6 hb6 hs6 hk6 hv7'
    rw [hc7] at hv7'
    obtain ⟨g7, cap7, rfl⟩ := hv7'
    rw [hc7, hx7] at R6
    have hs6' : w4.heap.size + 1 ≤ w5.heap.size := by have := hs6; simp at this; omega
    have hb5 : Below (w.heap.size + 1) wr w5 := (HB3.out.mono hlo).trans ((((Below.refl (w.heap.size + 1) w3).alloc (by omega) _).trans HB4.out).trans (((Below.refl (w.heap.size + 1) w4).alloc (by omega) _).trans hb6))
    have f5 : w5.heap[w2.heap.size]? = w3.heap[w2.heap.size]? := ((hk6 _ (by simp; omega) (fun g hg => by rw [hv7] at hg; have := HI.out.R.ownLt hg; omega)).trans (Below.heap_alloc _ _ _ (by omega))).trans HF4.out
    have HR6 := hide R6
    have HB5 := hide hb5
    have HF5 := hide f5
    clear R6 hb6 hb5 R5 hv7 hc7 hx7 hk6 f5
    go_wp2_with fail
    have hC0 : (upd (upd C [4] (C [4] + 1)) [7] (C [7] + 1)) [0] ≤ 2000 := by rw [upd_other _ _ (by decide), upd_other _ _ (by decide), HI.out.ps.1]; omega
    refine (parse_kernel w5 own5 (w.heap.size + 1) w.heap.size w2.heap.size 2 _ _ _ (⟨#[107]⟩ ++ ⟨l.toArray⟩) ((k : Int) + 2) HR6.out (PBx.same (V := V) ((HB5.out.block _ (by omega)).trans HI.out.hB) (by rfl) (by rfl) (by rfl)) (by omega) (by omega) hC0 (by omega) (cell_kept HF5.out HF3.out.1) (cell_kept HF5.out HF3.out.2)).mono ?_
    rintro e w6 ⟨rfl, hk6, own6, v0, R7, hB7⟩
    have HK6 := hide hk6
    have HR7 := hide R7
    have HB7 := hide hB7
    clear hk6 R7 hB7 hC0
    go_wp2_with fail
    refine HK.out _ w6 (HI.out.res_kernel ?_ rfl rfl rfl rfl rfl rfl rfl rfl ((Kp.of_below HB5.out (by omega)).trans HK6.out) HR7.out HB7.out)
    kernel_rfl)
end Go.Proofs.YbulkmvuFmt
