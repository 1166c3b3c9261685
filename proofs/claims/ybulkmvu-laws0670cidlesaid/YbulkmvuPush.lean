/-
  '(*eventQueue).push'.
-/
import Derived.Test.YbulkmvuQueue
namespace Go.Proofs.Ybulkmvu.Push
open Go.RowKit Go.Proofs.Ybulkmvu.Ev Go.Proofs.Ybulkmvu.Heap Go.Proofs.Ybulkmvu.Queue

theorem _root_.Go.Proofs.Ybulkmvu.Ev.At.drewN {w : World} {b o : Nat} {e : Ev} (h : At w b o e) (n : Nat) : At (w.drewN n) b o e := h

theorem new10H (w : World) (H : Nat) (hH : w.heap.size = H) (o : Obj) (cs : Array Value) (t : TypeId) : ∀ j u, cs.toList[j]? = some u → (((w.alloc o).alloc (.cells cs t)).drew).cell? ((⟨H + 1, 0, none⟩ : Addr).add j) = some u := by
  subst hH
  exact new10 w o cs t

theorem swap_kq {B Q : Nat} {R R1 : Option Nat} {w wr wx : World} {M : List Ev} {s : Int} (hk : Kq Q R w wr) (h : QAt B Q R1 wx M s) (hb : Below wr.heap.size wr wx) (hn : R1 = R ∨ ∃ q, R1 = some q ∧ w.heap.size ≤ q) {q : Nat} (hR : R1 = some q) (i j : Nat) (hi : i < M.length) (hj : j < M.length) :
    QAt B Q R1 ((wx.setCells q (i * 10) (evCells (g M j))).setCells q (j * 10) (evCells (g M i))) (swap M i j) s ∧ Kq Q R w ((wx.setCells q (i * 10) (evCells (g M j))).setCells q (j * 10) (evCells (g M i))) := by
  obtain ⟨h1, h2⟩ := swap_world h hR i j hi hj
  exact ⟨h1, (hk.trans (Kq.of_below (R := R) hb) (.inl rfl)).trans h2 hn⟩

theorem seq_step {B Q : Nat} {R : Option Nat} {w : World} {L : List Ev} {s : Int} {ao : Option Addr} {cap : Nat} {xs : List Value} (u : Int)
    (hQ : w.heap[Q]? = some (.cells #[.slice ao L.length cap, .int .u64 s] 27 (0, 0))) (hown : w.ownsRow B 41 10 (.slice ao L.length cap) L.length xs) (hR : (Value.slice ao L.length cap).ownBlock = R) (hRQ : R ≠ some Q) :
    (w.setCell ⟨Q, 1, none⟩ (.int .u64 u)).heap[Q]? = some (.cells #[.slice ao L.length cap, .int .u64 u] 27 (0, 0)) ∧ (w.setCell ⟨Q, 1, none⟩ (.int .u64 u)).ownsRow B 41 10 (.slice ao L.length cap) L.length xs ∧ Kq Q R w (w.setCell ⟨Q, 1, none⟩ (.int .u64 u)) := by
  refine ⟨?_, ownsRow_setCell_other hown (by rw [hR]; exact hRQ) _, ⟨rfl, rfl, rfl, by simp [World.setCell], fun k _ h1 _ => heap_setCell_other _ _ _ _ (by simpa using h1)⟩⟩
  rw [heap_setCell_same _ _ _ _ _ _ hQ]
  simp

set_option maxRecDepth 100000 in
set_option maxHeartbeats 1000000 in
theorem push_any (B Q : Nat) (R : Option Nat) (w : World) (L : List Ev) (s sq : Int) (x : Ev) (hq : QAt B Q R w L s) (hB : B ≤ w.heap.size) (hL : L.length ≤ 2000) (hs0 : 0 ≤ s) (hs1 : s ≤ 2000) (hH : Heap L) :
    Calls Yba.prog 8 #[.pointer (some ⟨Q, 0, none⟩), .agg #[.int .i64 x.t, .int .u8 x.st, .int .u32 0, .int .i64 x.cu, .int .u64 sq, .pointer none, .pointer none, .pointer none, .pointer none, .pointer none]] w fun r w' =>
      r = .returned (.tuple #[]) ∧ ∃ R' L', QAt B Q R' w' L' (s + 1) ∧ Heap L' ∧ L'.Perm (L ++ [⟨x.t, x.st, x.cu, s⟩]) ∧ Kq Q R w w' ∧ (R' = R ∨ ∃ q, R' = some q ∧ w.heap.size ≤ q) := by
  obtain ⟨i0, hi, hz0, hz1, hz2⟩ := info_parts info41
  obtain ⟨ao, cap, xs, hQ, hown, hrow, hR, hRQ⟩ := hq
  have c0 : w.cell? ⟨Q, 0, none⟩ = some (.slice ao L.length cap) := by rw [cell_of_row _ _ _ _ _ _ hQ]; rfl
  have c1 : w.cell? ⟨Q, 1, none⟩ = some (.int .u64 s) := by rw [cell_of_row _ _ _ _ _ _ hQ]; rfl
  have f0 : ∀ r, w.frozen? ⟨Q, r, none⟩ = false := fun r => frozen_of_row _ _ _ _ _ hQ
  have hQlt := lt_of_block hQ
  have HQ := hide hQ
  have HO := hide hown
  have HR := hide hrow
  have HRR := hide hR
  have HRQ := hide hRQ
  have HH := hide hH
  clear hQ hown hrow hR hRQ hH
  go_enter Yba.func8, Yba.ntmps8
  go_wp2_with fail
  obtain ⟨hQ1, hown1, hk1⟩ := seq_step (s + 1) HQ.out HO.out HRR.out HRQ.out
  have HQ1 := hide hQ1
  have HO1 := hide hown1
  have HK1 := hide hk1
  have hsz1 : (w.setCell ⟨Q, 1, none⟩ (.int .u64 (s + 1))).heap.size = w.heap.size := by simp [World.setCell]
  clear hQ1 hown1 hk1
  go_cut [] from 18 to 27 (fun wc => ∃ R1, QAt B Q R1 wc (L ++ [⟨x.t, x.st, x.cu, s⟩]) (s + 1) ∧ Kq Q R w wc ∧ (R1 = R ∨ ∃ q, R1 = some q ∧ w.heap.size ≤ q))
  case first =>
    go_region_law
      (first
        | (refine step_append_lies _ (by rfl) _ _ _ (by rfl) B 41 i0 _ 10 72 Yba.underlying24 hi hz0 hz1 hz2 (by rfl) (by omega) _ L.length xs (by rfl) ((HO1.out.alloc _).alloc _).drew _ 1 1 (evCells ⟨x.t, x.st, x.cu, s⟩) (by rfl) (by rfl) (new10H _ _ hsz1 _ _ _) (ev_one _) (by omega) (by unfold maxLen; omega) (by omega) (by simp [hsz1]; omega) _ rfl ?_; intro gb cap' w2 hown2 hgr2 hat _; obtain ⟨e4, hqa, hkq, hnew⟩ := push_step HQ1.out HO1.out HR.out HRR.out HRQ.out ((((Below.refl _ _).alloc (Nat.le_refl _) _).alloc (by simp) _).drew) hown2 hgr2 hat; have c4 : w2.cell? ⟨Q, 0, none⟩ = some (.slice ao L.length cap) := (cell_of_row _ _ _ _ _ _ e4).trans rfl; have f4 : w2.frozen? ⟨Q, 0, none⟩ = false := frozen_of_row _ _ _ _ _ e4)
        | fail)
    all_goals
      go_wp2_with fail
      go_meet
      case rel => exact ⟨some gb, hqa, HK1.out.trans hkq (.inl rfl), by rw [hsz1] at hnew; exact hnew⟩
  case rest =>
    obtain ⟨R1, hq1, hk, hnew⟩ := hcut
    have HQA := hide hq1
    have HKQ := hide hk
    have HNW := hide hnew
    obtain ⟨ao1, cap1, xs1, hQ1, -, -, -, -⟩ := hq1
    have d0 : wc.cell? ⟨Q, 0, none⟩ = some (.slice ao1 (L.length + 1) cap1) := by rw [cell_of_row _ _ _ _ _ _ hQ1]; simp
    have HST := hide (up_start L ⟨x.t, x.st, x.cu, s⟩ HH.out)
    clear c0 c1 f0 hQ1 hk hnew hi hz0 hz1 hz2 HQ HO HR HRR HRQ HH HQ1 HO1 HK1 hsz1
    go_wp2_with fail
    clear d0
    go_loopw [4] (fun iv wr => ∃ (i : Nat) (M : List Ev), iv = .int .i64 i ∧ i < M.length ∧ M.length = L.length + 1 ∧ QAt B Q R1 wr M (s + 1) ∧ Up M i ∧ M.Perm (L ++ [⟨x.t, x.st, x.cu, s⟩]) ∧ Kq Q R w wr) (fun iv _ => (intOf iv).toNat)
    case atStart => exact ⟨L.length, _, rfl, by simp, by simp, HQA.out, HST.out, List.Perm.refl _, HKQ.out⟩
    case round =>
      obtain ⟨i, M, rfl, hiM, hM, hqa, hup, hperm, hkq⟩ := hrel
      have HQA2 := hide hqa
      have HUP := hide hup
      have HPM := hide hperm
      have HKQ2 := hide hkq
      clear hup hperm hkq HQA HKQ HST
      by_cases h0 : 0 < i
      · obtain ⟨ao2, cap2, xs2, hQ2, hown2, hrow2, hR2, hRQ2⟩ := hqa
        obtain ⟨gb, rfl⟩ : ∃ gb, ao2 = some ⟨gb, 0, none⟩ := by
          obtain ⟨gb, cg, hv, _, _⟩ := hown2.form (by omega)
          simp only [Value.slice.injEq] at hv
          exact ⟨gb, hv.1⟩
        have c0 : wr.cell? ⟨Q, 0, none⟩ = some (.slice (some ⟨gb, 0, none⟩) M.length cap2) := by rw [cell_of_row _ _ _ _ _ _ hQ2]; rfl
        have ri := evAt hown2 hrow2 rfl i hiM
        have rp := evAt hown2 hrow2 rfl ((i - 1) / 2) (by omega)
        have hpi : (i - 1) / 2 < i := by omega
        have hpM : (i - 1) / 2 < M.length := by omega
        have hMl : M.length ≤ 2001 := by omega
        have HM := hide hM
        clear hM
        have b1 : (0 : Int) ≤ (i : Int) := by omega
        have b2 : (i : Int) < (M.length : Int) := by omega
        have b3 : (0 : Int) ≤ ((i : Int) - 1) / 2 := by omega
        have b4 : ((i : Int) - 1) / 2 < (M.length : Int) := by omega
        have e1 : (((i : Int) - 1) / 2).toNat = (i - 1) / 2 := by omega
        have HRI := hide ri
        have HRP := hide rp
        have HOW := hide hown2
        have HRW := hide hrow2
        have HRE := hide hR2
        clear ri rp hown2 hrow2 hQ2 hR2 hRQ2
        by_cases hlt : Lt (g M i) (g M ((i - 1) / 2))
        · have HN := hide hlt
          clear hlt
          go_wp2_with fail
          go_quiet ((go_at_call 15; exact Calls.quiet_of (before_any (wr.drewN _) gb (i * 10) gb ((i - 1) / 2 * 10) (g M i) (g M ((i - 1) / 2)) (At.drewN (at_of_range HRI.out) _) (At.drewN (at_of_range HRP.out) _) true (by simp [HN.out]))))
          go_wp2_with fail
          have ci0 := HRI.out 0 _ rfl
          have ci1 := HRI.out 1 _ rfl
          have ci2 := HRI.out 2 _ rfl
          have ci3 := HRI.out 3 _ rfl
          have ci4 := HRI.out 4 _ rfl
          have ci5 := HRI.out 5 _ rfl
          have ci6 := HRI.out 6 _ rfl
          have ci7 := HRI.out 7 _ rfl
          have ci8 := HRI.out 8 _ rfl
          have ci9 := HRI.out 9 _ rfl
          have cp0 := HRP.out 0 _ rfl
          have cp1 := HRP.out 1 _ rfl
          have cp2 := HRP.out 2 _ rfl
          have cp3 := HRP.out 3 _ rfl
          have cp4 := HRP.out 4 _ rfl
          have cp5 := HRP.out 5 _ rfl
          have cp6 := HRP.out 6 _ rfl
          have cp7 := HRP.out 7 _ rfl
          have cp8 := HRP.out 8 _ rfl
          have cp9 := HRP.out 9 _ rfl
          have fr : ∀ r, wr.frozen? ⟨gb, r, none⟩ = false := fun r => HOW.out.frozenAt r
          have hR1 : R1 = some gb := by rw [← HRE.out]; rfl
          have HSW := hide (fun n => swap_kq HKQ2.out (HQA2.out.of_below (below_drewN (Below.refl _ _) n)) (below_drewN (Below.refl wr.heap.size wr) n) HNW.out hR1 i ((i - 1) / 2) hiM hpM)
          have HUS := hide (up_step M i h0 hiM HUP.out HN.out)
          have HPS := hide ((swap_perm M i ((i - 1) / 2) hiM hpM).trans HPM.out)
          clear hR1
          generalize g M i = ei at *
          generalize g M ((i - 1) / 2) = ep at *
          simp only [Nat.add_zero] at ci0 cp0
          go_region
          go_wp2_with fail
          obtain ⟨hsw, hsk⟩ := HSW.out (nq + 1)
          go_roundw
          case rel => exact ⟨(i - 1) / 2, swap M i ((i - 1) / 2), by go_num, by rw [swap_length]; exact hpM, by rw [swap_length]; exact HM.out, hsw, HUS.out, HPS.out, hsk⟩
          case measure => simp [intOf]; omega
        · have HN := hide hlt
          clear hlt
          go_wp2_with fail
          go_quiet ((go_at_call 15; exact Calls.quiet_of (before_any (wr.drewN _) gb (i * 10) gb ((i - 1) / 2 * 10) (g M i) (g M ((i - 1) / 2)) (At.drewN (at_of_range HRI.out) _) (At.drewN (at_of_range HRP.out) _) false (by simp [HN.out]))))
          go_wp2_with fail
          go_end0
          exact ⟨rfl, R1, M, HQA2.out.of_below (below_drewN (Below.refl _ _) _), up_end M i HUP.out (.inr HN.out), HPM.out, HKQ2.out.trans (Kq.of_below (R := R) (below_drewN (Below.refl _ _) _)) (.inl rfl), HNW.out⟩
      · obtain rfl : i = 0 := by omega
        go_wp2_with fail
        go_end0
        exact ⟨rfl, R1, M, HQA2.out, up_end M 0 HUP.out (.inl rfl), HPM.out, HKQ2.out, HNW.out⟩

end Go.Proofs.Ybulkmvu.Push
