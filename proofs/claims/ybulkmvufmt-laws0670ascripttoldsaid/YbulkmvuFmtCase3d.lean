/-
  The round of 'LawS0670AScript': a c line in a warp.
-/
import Derived.Test.YbulkmvuFmtStays
import Derived.Deep.RegionHeld3
namespace Go.Proofs.YbulkmvuFmt
open Go.RowKit Go.Extern.Stop Go.Stop Go.Extern
set_option linter.unusedVariables false

set_option maxHeartbeats 4000000 in
set_option maxRecDepth 1000000 in
theorem case3_warp (F : Interp) (a0 : Option Addr) (n c k b off : Nat) (u : Nat → Value) (w wr : World) (s : St3) (own : Nat → List Nat) (V : List Nat → Value) (C : List Nat → Nat) (X : List Nat → List Value) (nk : Nat) (nc : Nat → Nat) (nw : Nat → Nat → Nat) (ni : Nat → Nat → Nat → Nat) (nm : Nat → ByteArray) (na : Nat) (K : Act → World → Prop) (Q : Exit → Act → World → Prop) (h : In F a0 n c k b off u w wr s own V C X nk nc nw ni nm na) (hop : (s.op : Int).tmod 7 = 3) (hnk : 0 < nk) (hq0 : 0 < nc (nk - 1)) (hw0 : 0 < nw (nk - 1) (nc (nk - 1) - 1))
    (hK : ∀ arr w', Res a0 n c w k arr w' → K ⟨arr, []⟩ w') :
    Code.wp Ybaf.prog ((Ybaf.f4.body.bind firstLoop).getD .skip) (Exit.then K Q) ⟨frame a0 n c w.heap.size u, []⟩ wr := by
  obtain ⟨o1, o2, o3⟩ := h.hok
  have i1 : (s.op : Int) ≤ 255 := by omega
  have i2 : (s.n : Int) ≤ 255 := by omega
  have i3 : (s.a : Int) ≤ 18446744073709551615 := by omega
  have hu := h.hu
  have hkn := h.hkn
  have hn := h.hn
  have hlo := h.hlo
  have hb1 := h.b1
  have hu4 := h.hu4
  obtain ⟨m0, mm, hv4⟩ := h.R.val [4]
  rw [h.ms.1] at hv4
  obtain ⟨q, rfl⟩ : ∃ q, nk = q + 1 := ⟨nk - 1, by omega⟩
  obtain ⟨r, hr⟩ : ∃ r, nc q = r + 1 := ⟨nc q - 1, by have : 0 < nc q := hq0; omega⟩
  have er : nc q - 1 = r := by omega
  have hw1 : 0 < nw q r := by
    have e := hw0
    simp only [Nat.add_sub_cancel] at e
    rw [er] at e
    exact e
  obtain ⟨p, hp⟩ : ∃ p, nw q r = p + 1 := ⟨nw q r - 1, by omega⟩
  obtain ⟨g4, k4, g5, k5, g6, k6, g0, k0, g1, k1, g2, k2, a3, k3, ev, ex, t4, t5, t6, l6⟩ := h.all hr hp
  have hnc := h.b2 q
  have hnw := h.b3 q r
  have hni := h.b4 q r p
  have HE := hide ev
  have HX := hide ex
  obtain ⟨m, hm⟩ : ∃ m, ni q r p = m := ⟨_, rfl⟩
  have hmk : m ≤ 512 := by omega
  have HM := hide hm
  rw [hr] at hnc
  rw [hp] at hnw
  have hqq1 : (0 : Int) < (q : Int) + 1 := by omega
  have hqq2 : (q : Int) < (q : Int) + 1 := by omega
  have hqq3 : (0 : Int) ≤ (q : Int) := by omega
  have hqq4 : IntKind.i64.wrap ((q : Int) + 1 - 1) = (q : Int) := by rw [IntWalk.i64_in _ (by omega)]; omega
  have hqq5 : IntKind.i64.wrap (q : Int) = (q : Int) := IntWalk.i64_in _ (by omega)
  have hqq6 : (q : Int) ≤ 512 := by omega
  have hrr1 : (0 : Int) < (r : Int) + 1 := by omega
  have hrr2 : (r : Int) < (r : Int) + 1 := by omega
  have hrr3 : (0 : Int) ≤ (r : Int) := by omega
  have hrr4 : IntKind.i64.wrap ((r : Int) + 1 - 1) = (r : Int) := by rw [IntWalk.i64_in _ (by omega)]; omega
  have hrr5 : IntKind.i64.wrap (r : Int) = (r : Int) := IntWalk.i64_in _ (by omega)
  have hrr6 : (r : Int) ≤ 512 := by omega
  have hpp1 : (0 : Int) < (p : Int) + 1 := by omega
  have hpp2 : (p : Int) < (p : Int) + 1 := by omega
  have hpp3 : (0 : Int) ≤ (p : Int) := by omega
  have hpp4 : IntKind.i64.wrap ((p : Int) + 1 - 1) = (p : Int) := by rw [IntWalk.i64_in _ (by omega)]; omega
  have hpp5 : IntKind.i64.wrap (p : Int) = (p : Int) := IntWalk.i64_in _ (by omega)
  have hpp6 : (p : Int) ≤ 512 := by omega
  have hmm1 : (0 : Int) < (m : Int) + 1 := by omega
  have hmm2 : (m : Int) < (m : Int) + 1 := by omega
  have hmm3 : (0 : Int) ≤ (m : Int) := by omega
  have hmm4 : IntKind.i64.wrap ((m : Int) + 1 - 1) = (m : Int) := by rw [IntWalk.i64_in _ (by omega)]; omega
  have hmm5 : IntKind.i64.wrap (m : Int) = (m : Int) := IntWalk.i64_in _ (by omega)
  have hmm6 : (m : Int) ≤ 512 := by omega
  have hcy : (s.a : Int) / 2 ≤ 9223372036854775807 := by omega
  have hcy0 : 0 ≤ (s.a : Int) / 2 := by omega
  have hcy2 : IntKind.i64.wrap ((s.a : Int) / 2) = (s.a : Int) / 2 := IntWalk.i64_in _ (by omega)
  clear hv4
  have hv4 := ev.1
  clear ev ex hm
  obtain rfl := h.ha
  have c0 := h.c0
  have c1 := h.c1
  have c2 := h.c2
  unfold frame
  rw [hu, hu4, hv4]
  conv => arg 2; whnf
  have HK := hide hK
  have HI := hide h
  have HV4 := hide hv4
  clear hK h hv4 hu hu4
  go_wp2_with fail
  all_goals (
    generalize hw1 : wr.alloc _ = w1
    have hb1 : Below wr.heap.size wr w1 := by rw [← hw1]; exact (Below.refl _ _).alloc (Nat.le_refl _) _
    have hp1 : Pow w1 := by rw [← hw1]; exact Lib.tabIs_alloc HI.out.hP _
    have hs1 : w1.heap.size = wr.heap.size + 1 := by rw [← hw1]; simp
    refine (format_half s.a o3 w1 hp1).mono ?_
    rintro e w2 ⟨l, rfl, hb2, hnum⟩
    have HB2 : Hid (Below wr.heap.size wr w2) := hide (hb1.trans (hb2.mono hb1.size))
    have hs2 : wr.heap.size + 1 ≤ w2.heap.size := by have := hb2.size; omega
    have HN := hide hnum
    clear hw1 hb1 hp1 hb2 hnum c0 c1 c2 hs1
    go_wp2_with fail
    generalize hw3 : w2.alloc _ = w3
    have hb3 : Below wr.heap.size wr w3 := by rw [← hw3]; exact HB2.out.alloc (by omega) _
    have hs3 : w3.heap.size = w2.heap.size + 1 := by rw [← hw3]; simp
    have f3 : w3.cell? ⟨w2.heap.size, 0, none⟩ = some (.string ⟨#[99]⟩) ∧ w3.cell? ⟨w2.heap.size, 1, none⟩ = some (.string ⟨l.toArray⟩) := by rw [← hw3]; exact boxed_cell2 w2 _ _ 9
    have HB3 := hide hb3
    have HF3 := hide f3
    clear hw3 hb3 f3 HB2
    have d4 : w3.cell? ⟨g4, q, none⟩ = some (.slice (some ⟨g5, 0, none⟩) (r + 1) k5) := cell_below HB3.out t4 HX.out.1
    have d5 : w3.cell? ⟨g5, r, none⟩ = some (.slice (some ⟨g6, 0, none⟩) (p + 1) k6) := cell_below HB3.out t5 HX.out.2.1
    go_quiet (fail)
    generalize hw4 : w3.drewN nq = w4
    have hb4 : Below wr.heap.size wr w4 := by rw [← hw4]; exact below_drewN HB3.out _
    have hs4 : w4.heap.size = w3.heap.size := by rw [← hw4]; rfl
    have f4 : w4.cell? ⟨w2.heap.size, 0, none⟩ = some (.string ⟨#[99]⟩) ∧ w4.cell? ⟨w2.heap.size, 1, none⟩ = some (.string ⟨l.toArray⟩) := by rw [← hw4]; exact HF3.out
    have HB4 := hide hb4
    have HF4 := hide f4
    clear hw4 hb4 f4 HB3 HF3
    clear d4 d5
    have d4 : w4.cell? ⟨g4, q, none⟩ = some (.slice (some ⟨g5, 0, none⟩) (r + 1) k5) := cell_below HB4.out t4 HX.out.1
    have d5 : w4.cell? ⟨g5, r, none⟩ = some (.slice (some ⟨g6, 0, none⟩) (p + 1) k6) := cell_below HB4.out t5 HX.out.2.1
    have d6 : w4.cell? ⟨g6, p, none⟩ = some (.int .i64 m) := by rw [← HM.out]; exact cell_below HB4.out t6 HX.out.2.2.1
    have d7 : w4.frozen? ⟨g6, p, none⟩ = false := (HI.out.R.below HB4.out).frozenAt HE.out.2.2.1 p
    go_wp2_with fail
    generalize hw5 : w4.setCell _ _ = w5
    have R5 := (HI.out.R.below HB4.out).set [6, q, r] g6 k6 (p + 1) p (.int .i64 ((m : Int) + 1)) HE.out.2.2.1
    rw [hw5] at R5
    have kk5 : Kp w.heap.size (w.heap.size + 1) w4 w5 := by rw [← hw5]; exact Kp.of_row w4 g6 p _ l6
    have hB5 : PBx w5 w.heap.size V := by
      have e : w5.heap[w.heap.size]? = w4.heap[w.heap.size]? := by rw [← hw5]; exact heap_setCell_other _ _ _ _ (by simp; omega)
      exact e.trans ((HB4.out.block _ (by omega)).trans HI.out.hB)
    have hs5 : w5.heap.size = w4.heap.size := by rw [← hw5]; simp [World.setCell]
    have f5 : w5.heap[w2.heap.size]? = w4.heap[w2.heap.size]? := by rw [← hw5]; exact heap_setCell_other _ _ _ _ (by simp; omega)
    have eX : ∀ a m', a < 6 → (upd X [6, q, r] ((X [6, q, r]).set p (.int .i64 ((m : Int) + 1)))) (a :: m') = X (a :: m') := fun a m' ha => upd_other _ _ (ne_head (by omega))
    have eC : C [3, q, r, p] = m := (HI.out.ps.2.2.2.2.1 q r p).trans HM.out
    refine (parse_c w5 own (w.heap.size + 1) w.heap.size w2.heap.size 2 _ _ _ ((k : Int) + 2) R5 hB5 (by omega) (by omega) (by omega) g0 q k0 g1 r k1 g2 p k2 a3 k3 (by omega) (by omega) (by omega) HE.out.2.2.2.1 HE.out.2.2.2.2.1 HE.out.2.2.2.2.2.1 (by rw [eX _ _ (by omega)]; exact (HI.out.ps.2.1 q (by omega)).2) (by rw [eX _ _ (by omega)]; exact (HI.out.ps.2.2.1 q).2 r (by rw [hr]; omega)) (by rw [eC, ← HM.out]; exact HE.out.2.2.2.2.2.2) (by rw [eX _ _ (by omega)]; exact (HI.out.ps.2.2.2.1 q r).2 p (by rw [hp]; omega)) (by rw [eC]; omega) (s.a / 2) l (by omega) HN.out (cell_kept f5 HF4.out.2) (by omega) (cell_kept f5 HF4.out.1)).mono ?_
    rintro e w6 ⟨rfl, hk6, own6, v1, R7, hB7⟩
    obtain ⟨g3, k3', y0, y1, y2, z0, z1, z2, tg2, tg3⟩ := ins_cells R7 HE.out.2.2.2.1 HE.out.2.2.2.2.1 HE.out.2.2.2.2.2.1 (by rw [eX _ _ (by omega)]; exact (HI.out.ps.2.1 q (by omega)).2) (by rw [eX _ _ (by omega)]; exact (HI.out.ps.2.2.1 q).2 r (by rw [hr]; omega)) eC (by rw [eX _ _ (by omega), HI.out.R.len [3, q, r, p], eC]; rfl) (by rw [eX _ _ (by omega), HI.out.R.len [2, q, r], (HI.out.ps.2.2.2.1 q r).1, hp]; simp [S])
    have yB : w6.cell? ⟨w.heap.size, 1, none⟩ = some (.slice (some ⟨g0, 0, none⟩) (q + 1) k0) := by
      rw [← HE.out.2.2.2.1]
      exact (cell_of_row w6 _ _ _ _ _ hB7).trans rfl
    have HW := hide (warp_some w6 w.heap.size g0 q k0 g1 r k1 g2 p k2 (by omega) (by omega) (by omega) yB y0 y1)
    have HK6 : Hid (Kp w.heap.size (w.heap.size + 1) wr w6) := hide (((Kp.of_below (HB4.out.mono hlo) (by omega)).trans kk5).trans hk6)
    have HR7 := hide R7
    have HB7 := hide hB7
    have HZ := hide (And.intro y2 (And.intro z0 (And.intro z1 z2)))
    clear hw5 R5 kk5 hB5 f5 eX eC hk6 R7 hB7 y0 y1 y2 z0 z1 z2 yB d4 d5 d6 d7 HB4 HF4
    go_wp2_with fail
    refine HW.out.mono ?_
    rintro e w7 ⟨rfl, j, hj⟩
    have hb7 : Below w6.heap.size w6 w7 := by rw [hj]; exact below_drewN (Below.refl _ _) _
    have hs7 : w7.heap.size = w6.heap.size := by rw [hj]; rfl
    obtain ⟨y2, z0, z1, z2⟩ : w7.cell? ⟨g2, p, none⟩ = some (.slice (some ⟨g3, 0, none⟩) (m + 1) k3') ∧ w7.cell? ⟨g3, m * 3, none⟩ = some (.int .u8 3) ∧ w7.cell? ⟨g3, m * 3 + 1, none⟩ = some (.slice none 0 0) ∧ w7.cell? ⟨g3, m * 3 + 2, none⟩ = some (.int .i64 ((s.a / 2 : Nat) : Int)) := by rw [hj]; exact HZ.out
    have HB8 := hide hb7
    have n1 : ¬ g2 = w7.heap.size := by omega
    have n2 : ¬ g3 = w7.heap.size := by omega
    have n3 : ¬ w7.heap.size = g2 := by omega
    have n4 : ¬ w7.heap.size = g3 := by omega
    clear hj hb7 HZ HW
    go_wp2_with fail
    have x2 : w7.drew.cell? ⟨g2, p, none⟩ = some (.slice (some ⟨g3, 0, none⟩) (m + 1) k3') := y2
    have x3 : w7.drew.cell? ⟨g3, m * 3, none⟩ = some (.int .u8 3) := z0
    have x4 : w7.drew.cell? ⟨g3, m * 3 + 1, none⟩ = some (.slice none 0 0) := z1
    have x5 : w7.drew.cell? ⟨g3, m * 3 + 2, none⟩ = some (.int .i64 ((s.a / 2 : Nat) : Int)) := z2
    go_region_held3 (fun w' => w'.cell? ⟨g2, p, none⟩ = some (.slice (some ⟨g3, 0, none⟩) (m + 1) k3') ∧ w'.cell? ⟨g3, m * 3, none⟩ = some (.int .u8 3) ∧ w'.cell? ⟨g3, m * 3 + 1, none⟩ = some (.slice none 0 0) ∧ w'.cell? ⟨g3, m * 3 + 2, none⟩ = some (.int .i64 ((s.a / 2 : Nat) : Int))) (go_keep) (first | fail)
    all_goals (
      generalize hw8 : World.drew _ = w8
      have hb8 : Below w6.heap.size w6 w8 := by rw [← hw8]; exact (HB8.out.alloc (by omega) _).drew
      have q0 : w8.cell? ⟨w6.heap.size, 0, none⟩ = some (.int .u8 3) := by rw [← hw8, ← hs7]; exact (boxed_cell3 w7 _ _ _ 53).1
      have q2 : w8.cell? ⟨w6.heap.size, 2, none⟩ = some (.int .i64 ((s.a : Int) / 2)) := by rw [← hw8, ← hs7]; exact (boxed_cell3 w7 _ _ _ 53).2.2
      have HBB := hide hb8
      clear hw8 hb8 x2 x3 x4 x5 y2 z0 z1 z2
      go_wp2_with fail
      refine HK.out _ w8 (HI.out.res_ins ?_ rfl ?_ rfl rfl rfl hr hp ?_ (HK6.out.trans (Kp.of_below (HBB.out.mono (by have := HK6.out.2.2.2.1; omega)) HBB.out.size)) (HR7.out.below HBB.out) ((HBB.out.block _ (by have := HK6.out.2.2.2.1; omega)).trans HB7.out))
      · kernel_rfl
      · exact HE.out.1.symm
      · rw [HM.out]))
end Go.Proofs.YbulkmvuFmt
