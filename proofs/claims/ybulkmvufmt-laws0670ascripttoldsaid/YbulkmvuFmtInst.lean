/-
  Instructions.
-/
import Derived.Test.YbulkmvuFmtArgs
namespace Go.Proofs.YbulkmvuFmt
open Go.RowKit Go.Extern.Stop Go.Stop Go.Extern

theorem info36 : (Ybaf.prog.info? 36).map (fun i => (i.zero, i.size, i.bytes)) = some (some (.int .u64 0), 1, 8) := by kernel_rfl

/-- A new box of three cells is filled. -/
theorem box3 {w w4 : World} {u0 u1 u2 : Value} {t : TypeId} {x y z : Value} (hb : Below w.heap.size w w4) (h : w4.heap[w.heap.size]? = some (.cells #[x, y, z] t (0, 0))) :
    Below w.heap.size w (((w4.setCell ⟨w.heap.size, 0, none⟩ u0).setCell ⟨w.heap.size, 1, none⟩ u1).setCell ⟨w.heap.size, 2, none⟩ u2) ∧ (((w4.setCell ⟨w.heap.size, 0, none⟩ u0).setCell ⟨w.heap.size, 1, none⟩ u1).setCell ⟨w.heap.size, 2, none⟩ u2).heap[w.heap.size]? = some (.cells #[u0, u1, u2] t (0, 0)) := by
  refine ⟨hb.trans ⟨rfl, rfl, rfl, by simp [World.setCell], fun q hq => ?_⟩, ?_⟩
  · rw [heap_setCell_other _ _ _ _ (by simp; omega), heap_setCell_other _ _ _ _ (by simp; omega), heap_setCell_other _ _ _ _ (by simp; omega)]
  · rw [heap_setCell_same _ _ _ _ _ _ (heap_setCell_same _ _ _ _ _ _ (heap_setCell_same w4 _ _ _ _ _ h))]
    rfl

/-- A result in a box of three cells, and an error. -/
theorem ret3 {w w5 : World} {u0 u1 u2 e : Value} {tmps : Array Value} {R : Ending → World → Prop} (h6 : tmps[6]?.getD undef = .pointer (some ⟨w.heap.size, 0, none⟩)) (h7 : tmps[7]?.getD undef = e) (q : w5.heap[w.heap.size]? = some (.cells #[u0, u1, u2] 53 (0, 0))) (hR : R (.returned (.tuple #[.agg #[u0, u1, u2], e])) w5) :
    bodyPost Ybaf.prog Ybaf.f15 R Exit.ret { tmps := tmps, defers := [] } w5 := by
  have r0 : w5.cell? ⟨w.heap.size, 0, none⟩ = some u0 := by rw [cell_of_row _ _ _ _ _ _ q]; rfl
  have r1 : w5.cell? ⟨w.heap.size, 1, none⟩ = some u1 := by rw [cell_of_row _ _ _ _ _ _ q]; rfl
  have r2 : w5.cell? ⟨w.heap.size, 2, none⟩ = some u2 := by rw [cell_of_row _ _ _ _ _ _ q]; rfl
  refine bodyPost_ret (v := .tuple #[.agg #[u0, u1, u2], e]) ?_ rfl hR
  simp [results, Ybaf.results15, go_sem, h6, h7, r0, r1, r2]

set_option maxHeartbeats 1000000 in
theorem inst_c (b off c lanes V : Nat) (l : List UInt8) (w : World) (hV : V ≤ 9223372036854775807) (hN : Num 10 V l) (ha : w.cell? ⟨b, off, none⟩ = some (.string ⟨l.toArray⟩)) :
    Calls Ybaf.prog 15 #[.string ⟨#[99]⟩, .slice (some ⟨b, off, none⟩) 1 c, .int .i64 lanes] w fun e w' => e = .returned (.tuple #[.agg #[.int .u8 3, .slice none 0 0, .int .i64 V], .nilIface]) ∧ Below w.heap.size w w' := by
  have hbl := World.block_lt_of_cell? _ _ ha
  go_enter Ybaf.func15, Ybaf.ntmps15
  go_wp2_with (first
    | (go_at_call 22; refine (decimal_of_num l V _ hN hV).mono ?_; rintro e w1 ⟨rfl, hb1⟩; have HB1 : Hid (Below w.heap.size w w1) := hide (((Below.refl _ _).alloc (Nat.le_refl _) _).trans (hb1.mono (by simp))); have x1 : w1.heap[w.heap.size]? = some (.cells #[.int .u8 0, .slice none 0 0, .int .i64 0] 53 (0, 0)) := (hb1.block _ (by simp)).trans (heap_alloc_new w _); have y0 : w1.cell? ⟨w.heap.size, 0, none⟩ = some (.int .u8 0) := (by rw [cell_of_row _ _ _ _ _ _ x1]; rfl); have y1 : w1.cell? ⟨w.heap.size, 1, none⟩ = some (.slice none 0 0) := (by rw [cell_of_row _ _ _ _ _ _ x1]; rfl); have y2 : w1.cell? ⟨w.heap.size, 2, none⟩ = some (.int .i64 0) := (by rw [cell_of_row _ _ _ _ _ _ x1]; rfl); have yf : ∀ r, w1.frozen? ⟨w.heap.size, r, none⟩ = false := fun r => frozen_of_row _ _ _ _ _ x1; have HX1 := hide x1; clear hb1 ha x1)
    | fail)
  obtain ⟨q1, q2⟩ := box3 (u0 := .int .u8 3) (u1 := .slice none 0 0) (u2 := .int .i64 V) HB1.out HX1.out
  exact ret3 rfl rfl q2 ⟨rfl, q1⟩

set_option maxHeartbeats 1000000 in
theorem inst_five (F : Interp) (kw : ByteArray) (a : Option Addr) (c : Nat) (w : World) (hF : F.answers w.tape) (hk : (kw.toList == [99]) = false) :
    Calls Ybaf.prog 15 #[.string kw, .slice a 5 c, .int .i64 4] w fun e w' => (∃ v a, e = .returned (.tuple #[v, .iface 75 (.pointer (some a))]) ∧ v = .agg #[.int .u8 0, .slice none 0 0, .int .i64 0]) ∧ Below w.heap.size w w' := by
  go_enter Ybaf.func15, Ybaf.ntmps15
  go_wp2_with fail
  generalize hw1 : w.alloc _ = w1
  have hb1 : Below w.heap.size w w1 := by rw [← hw1]; exact (Below.refl _ _).alloc (Nat.le_refl _) _
  have hs1 : w1.heap.size = w.heap.size + 1 := by rw [← hw1]; simp
  have x1 : w1.heap[w.heap.size]? = some (.cells #[.int .u8 0, .slice none 0 0, .int .i64 0] 53 (0, 0)) := by rw [← hw1]; exact heap_alloc_new w _
  have HB1 := hide hb1
  have HX1 := hide x1
  clear hw1 hb1 x1
  refine (err_sdd F _ kw 4 5 (w.heap.size + 1) _ (by show F.answers w1.tape; rw [HB1.out.tape]; exact hF) (fun w => by kernel_rfl) (by rw [← hs1]; exact (boxed_cell3 w1 _ _ _ 20).1) (by rw [← hs1]; exact (boxed_cell3 w1 _ _ _ 20).2.1) (by rw [← hs1]; exact (boxed_cell3 w1 _ _ _ 20).2.2)).mono ?_
  rintro e wx ⟨⟨a', rfl⟩, hbx⟩
  have HBX : Hid (Below w.heap.size w wx) := hide (below_boxed HB1.out _ wx hbx)
  have x2 : wx.heap[w.heap.size]? = some (.cells #[.int .u8 0, .slice none 0 0, .int .i64 0] 53 (0, 0)) := by
    rw [hbx.block _ (by simp; omega), Below.heap_alloc _ _ _ (by omega)]; exact HX1.out
  have y0 : wx.cell? ⟨w.heap.size, 0, none⟩ = some (.int .u8 0) := by rw [cell_of_row _ _ _ _ _ _ x2]; rfl
  have y1 : wx.cell? ⟨w.heap.size, 1, none⟩ = some (.slice none 0 0) := by rw [cell_of_row _ _ _ _ _ _ x2]; rfl
  have y2 : wx.cell? ⟨w.heap.size, 2, none⟩ = some (.int .i64 0) := by rw [cell_of_row _ _ _ _ _ _ x2]; rfl
  have yf : ∀ r, wx.frozen? ⟨w.heap.size, r, none⟩ = false := fun r => frozen_of_row _ _ _ _ _ x2
  have HX2 := hide x2
  clear hbx x2
  go_wp2_with fail
  obtain ⟨q1, q2⟩ := box3 (u0 := .int .u8 0) (u1 := .slice none 0 0) (u2 := .int .i64 0) HBX.out HX2.out
  exact ret3 rfl rfl q2 ⟨⟨_, _, rfl, rfl⟩, q1⟩

/-- Midway through the addresses. -/
def IMid (w wr : World) (D : Nat) (op : Int) (n k : Nat) (A : Nat → Nat) : Prop :=
  Below w.heap.size w wr ∧ wr.heap[w.heap.size]? = some (.cells #[.int .u8 0, .slice none 0 0, .int .i64 0] 53 (0, 0)) ∧ w.heap.size + 2 ≤ D ∧ wr.heap[D]? = some (.cells #[.int .u8 op, .slice (some ⟨w.heap.size + 1, 0, none⟩) n n, .int .i64 0] 53 (0, 0)) ∧
    ∃ cs, wr.heap[w.heap.size + 1]? = some (.cells cs 36 (0, 0)) ∧ cs.size = n ∧ ∀ i, i < k → cs[i]? = some (.int .u64 (A i))

theorem imid_step {w wr wx : World} {D : Nat} {op : Int} {n k : Nat} {A : Nat → Nat} (h : IMid w wr D op n k A) (hkn : k < n) (hx : Below wr.heap.size wr wx) : IMid w (wx.setCell ⟨w.heap.size + 1, k, none⟩ (.int .u64 (A k))) D op n (k + 1) A := by
  obtain ⟨h1, h2, hD, h3, cs, h4, h5, h6⟩ := h
  have l2 := lt_of_block h2
  have l3 := lt_of_block h3
  have l4 := lt_of_block h4
  have hot : ∀ q, q ≠ w.heap.size + 1 → (wx.setCell ⟨w.heap.size + 1, k, none⟩ (.int .u64 (A k))).heap[q]? = wx.heap[q]? := fun q hq => heap_setCell_other _ _ _ _ (by simpa using hq)
  refine ⟨(h1.trans (hx.mono h1.size)).trans ⟨rfl, rfl, rfl, by simp [World.setCell], fun q hq => hot q (by omega)⟩, by rw [hot _ (by omega), hx.block _ l2, h2], hD, by rw [hot _ (by omega), hx.block _ l3, h3], _, heap_setCell_same wx _ k cs 36 _ ((hx.block _ l4).trans h4), by simpa using h5, fun i hi => ?_⟩
  by_cases hik : i = k
  · subst hik
    rw [Array.getElem?_setIfInBounds, if_pos rfl, if_pos (by omega)]
  · rw [Array.getElem?_setIfInBounds, if_neg (by omega)]; exact h6 i (by omega)

theorem imid_start {w w2 : World} {op : Int} {n : Nat} {A : Nat → Nat} {z : List Value} {q : Nat} (ho : w2.ownsRow (w.heap.size + 1) 36 1 (.slice (some ⟨q, 0, none⟩) n n) n z) (hq : q = w.heap.size + 1)
    (hg : (w.alloc (.cells #[.int .u8 0, .slice none 0 0, .int .i64 0] 53)).grownBy w2 none) : IMid w (w2.alloc (.cells #[.int .u8 op, .slice (some ⟨w.heap.size + 1, 0, none⟩) n n, .int .i64 0] 53)) w2.heap.size op n 0 A := by
  subst hq
  rcases ho.2 with h | ⟨g, cap, cur, hv, hb, hh, hc, hm, hsz, ht⟩
  · simp at h
  · simp only [Value.slice.injEq, Option.some.injEq, Addr.mk.injEq] at hv
    obtain ⟨⟨rfl, -, -⟩, -, rfl⟩ := hv
    have hlt := lt_of_block hh
    have hb2 : Below (w.heap.size + 1) (w.alloc (.cells #[.int .u8 0, .slice none 0 0, .int .i64 0] 53)) w2 := ⟨hg.os, hg.tape, hg.output, by simp; omega, fun k hk => hg.block k (by simpa using hk) (by simp)⟩
    have hbw : Below w.heap.size w w2 := ((Below.refl _ _).alloc (Nat.le_refl _) _).trans (hb2.mono (by omega))
    have h0 : w2.heap[w.heap.size]? = some (.cells #[.int .u8 0, .slice none 0 0, .int .i64 0] 53 (0, 0)) := (hb2.block _ (by omega)).trans (heap_alloc_new w _)
    exact ⟨hbw.alloc hbw.size _, by rw [Below.heap_alloc _ _ _ (by omega)]; exact h0, by omega, heap_alloc_new w2 _, cur, by rw [Below.heap_alloc _ _ _ (by omega)]; exact hh, by simpa using hsz, fun i hi => absurd hi (by omega)⟩

/-- The operation of a keyword. -/
def opOf (kw : ByteArray) : Int := if (kw.toList == [119]) = true then 2 else 1

set_option maxHeartbeats 2000000 in
set_option maxRecDepth 100000 in
theorem inst_rw (kw : ByteArray) (b off c n : Nat) (A : Nat → Nat) (L : Nat → List UInt8) (w : World) (hk : (kw.toList == [99]) = false) (hn0 : 1 ≤ n) (hn4 : n ≤ 4) (hA : ∀ j, j < n → A j ≤ 18446744073709551615 ∧ Num 16 (A j) (L j) ∧ w.cell? ⟨b, off + j, none⟩ = some (.string ⟨(48 :: 120 :: L j).toArray⟩)) :
    Calls Ybaf.prog 15 #[.string kw, .slice (some ⟨b, off, none⟩) n c, .int .i64 4] w fun e w' => e = .returned (.tuple #[.agg #[.int .u8 (opOf kw), .slice (some ⟨w.heap.size + 1, 0, none⟩) n n, .int .i64 0], .nilIface]) ∧ Below w.heap.size w w' ∧ ∀ j, j < n → w'.cell? ⟨w.heap.size + 1, j, none⟩ = some (.int .u64 (A j)) := by
  obtain ⟨i36, hi, hz0, hz1, hz2⟩ := info_parts info36
  have HA := hide hA
  have hbl := World.block_lt_of_cell? _ _ (hA 0 (by omega)).2.2
  clear hA
  have h1 : ¬ (n : Int) < 1 := by omega
  have h2 : ¬ (4 : Int) < (n : Int) := by omega
  have hov : opOf kw = if (kw.toList == [119]) = true then 2 else 1 := rfl
  cases hop : (kw.toList == [119])
  all_goals (
    rw [hop] at hov
    have HOV := hide hov
    clear hov
    go_enter Ybaf.func15, Ybaf.ntmps15
    go_wp2_with (first | (at_make; refine wpList_make_full _ rfl _ _ 51 rfl (w.heap.size + 1) 36 i36 _ 1 Ybaf.underlying51 hi hz0 hz1 _ _ _ _ n rfl rfl (by omega) (by omega) (by rw [hz2]; omega) (by unfold maxLen; omega) (by simp) ?_; intro w2 ho2 hg2; have HO2 := hide ho2; have HG2 := hide hg2; clear ho2 hg2) | fail)
    generalize hw3 : w2.alloc _ = w3
    have hst : IMid w w3 w2.heap.size (opOf kw) n 0 A := by
      rw [← hw3, HOV.out]
      exact imid_start HO2.out (by simp) HG2.out
    have HST := hide hst
    clear hst hw3 HO2 HG2
    go_loopw [68] (fun jv wq => ∃ (k : Nat), jv = .int .i64 k ∧ k ≤ n ∧ IMid w wq w2.heap.size (opOf kw) n k A) (fun jv _ => n - (intOf jv).toNat)
    case atStart => exact ⟨0, rfl, by omega, HST.out⟩
    case round =>
      obtain ⟨k, rfl, hkn, hm⟩ := hrel
      have HM := hide hm
      obtain ⟨m1, m2, mD, m3, cs, m4, m5, m6⟩ := hm
      have l2 := lt_of_block m2
      have l3 := lt_of_block m3
      have l4 := lt_of_block m4
      clear HST
      by_cases hlt : k < n
      · obtain ⟨a1, a2, a3⟩ := HA.out k hlt
        have ck : wr.cell? ⟨b, off + k, none⟩ = some (.string ⟨(48 :: 120 :: L k).toArray⟩) := (m1.cell hbl).trans a3
        have M1 := hide m1
        have M3 := hide m3
        have M4 := hide m4
        have M5 := hide m5
        clear m1 m2 m3 m4 m5 m6 a3
        go_wp2_with (first
          | (go_at_call 19; refine (address_of_num (L k) (A k) wr a2 a1).mono ?_; rintro e wx ⟨rfl, hbx⟩; have x1 : wx.cell? ⟨w2.heap.size, 1, none⟩ = some (.slice (some ⟨w.heap.size + 1, 0, none⟩) n n) := (by rw [cell_of_row _ _ _ _ _ _ ((hbx.block _ l3).trans M3.out)]; rfl); obtain ⟨u, x2⟩ : ∃ u, wx.cell? ⟨w.heap.size + 1, k, none⟩ = some u := ⟨_, by rw [cell_of_row _ _ _ _ _ _ ((hbx.block _ l4).trans M4.out), Array.getElem?_eq_getElem (by rw [M5.out]; exact hlt)]⟩; have x3 : wx.frozen? ⟨w.heap.size + 1, k, none⟩ = false := frozen_of_row _ _ _ _ _ ((hbx.block _ l4).trans M4.out); have HSS := hide (imid_step HM.out hlt hbx); clear hbx)
          | fail)
        go_roundw
        case rel => exact ⟨k + 1, by go_num, by omega, HSS.out⟩
        case measure => simp [intOf]; omega
      · obtain rfl : k = n := by omega
        have y0 : wr.cell? ⟨w2.heap.size, 0, none⟩ = some (.int .u8 (opOf kw)) := by rw [cell_of_row _ _ _ _ _ _ m3]; rfl
        have y1 : wr.cell? ⟨w2.heap.size, 1, none⟩ = some (.slice (some ⟨w.heap.size + 1, 0, none⟩) k k) := by rw [cell_of_row _ _ _ _ _ _ m3]; rfl
        have y2 : wr.cell? ⟨w2.heap.size, 2, none⟩ = some (.int .i64 0) := by rw [cell_of_row _ _ _ _ _ _ m3]; rfl
        have z0 : wr.cell? ⟨w.heap.size, 0, none⟩ = some (.int .u8 0) := by rw [cell_of_row _ _ _ _ _ _ m2]; rfl
        have z1 : wr.cell? ⟨w.heap.size, 1, none⟩ = some (.slice none 0 0) := by rw [cell_of_row _ _ _ _ _ _ m2]; rfl
        have z2 : wr.cell? ⟨w.heap.size, 2, none⟩ = some (.int .i64 0) := by rw [cell_of_row _ _ _ _ _ _ m2]; rfl
        have zf : ∀ r, wr.frozen? ⟨w.heap.size, r, none⟩ = false := fun r => frozen_of_row _ _ _ _ _ m2
        have M1 := hide m1
        have M2 := hide m2
        have M4 := hide m4
        have M6 := hide m6
        clear m1 m2 m3 m4 m5 m6 HM
        go_wp2_with fail
        obtain ⟨q1, q2⟩ := box3 (u0 := .int .u8 (opOf kw)) (u1 := .slice (some ⟨w.heap.size + 1, 0, none⟩) k k) (u2 := .int .i64 0) M1.out M2.out
        refine ret3 rfl rfl q2 ⟨rfl, q1, fun j hj => ?_⟩
        have hrow : (((wr.setCell ⟨w.heap.size, 0, none⟩ (.int .u8 (opOf kw))).setCell ⟨w.heap.size, 1, none⟩ (.slice (some ⟨w.heap.size + 1, 0, none⟩) k k)).setCell ⟨w.heap.size, 2, none⟩ (.int .i64 0)).heap[w.heap.size + 1]? = some (.cells cs 36 (0, 0)) := by
          rw [heap_setCell_other _ _ _ _ (by simp), heap_setCell_other _ _ _ _ (by simp), heap_setCell_other _ _ _ _ (by simp)]
          exact M4.out
        rw [cell_of_row _ _ _ _ _ _ hrow]
        exact M6.out j hj)
end Go.Proofs.YbulkmvuFmt
