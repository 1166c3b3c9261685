/-
  What '(*irmb).removeEntry', called for entry 0, does.
-/
import Derived.Test.YbulkmvuPages
import Derived.Laws.CopyOwn
import Derived.Deep.RegionLaw
namespace Go.Proofs.Ybulkmvu.Irmb
open Go.RowKit Go.Proofs.Ybulkmvu.Ev Go.Proofs.Ybulkmvu.Queue

/-- 'copy' of elements of two cells, within one region that draws its order. -/
theorem step_copy2 {P : Program} {ops : Array Oper} {o : Oper} {a : Act} {w : World} {K : Act → World → Prop} {Q : Exit → Act → World → Prop} {E : Prop} (hgd : o.guard = none) (d s : Operand) (dT sT : TypeId)
    (ho : o.op = .call { callee := .builtin .copy, args := #[d, s], argTypes := #[dT, sT] }) (elem : TypeId) (hu : P.underlying dT = some (.slice elem)) (hsz : (P.info? elem).map (·.size) = some 2)
    (g off dLen dCap : Nat) (ad : Addr) (sLen sCap : Nat) (hd : a.eval d = .slice (some ⟨g, off, none⟩) dLen dCap) (hs : a.eval s = .slice (some ad) sLen sCap)
    (cs : List Value) (hn : cs.length = Nat.min sLen dLen * 2)
    (hsrc : ∀ j v, cs[j]? = some v → w.cell? (ad.add j) = some v) (hc : ∀ j, j < cs.length → (w.cell? ⟨g, off + j, none⟩).isSome = true) (hf : ∀ j, j < cs.length → w.frozen? ⟨g, off + j, none⟩ = false) (h1 : ∀ v ∈ cs, v.oneCell' = true)
    (h : K (a.put o.dst (goInt (Nat.min sLen dLen))) (w.setCells g off cs)) :
    if Region.wanted o (yielded ops a.tmps) = true then Oper.wp P o a w K Q else E := by
  have hw : Region.wanted o (yielded ops a.tmps) = true := by simp [Region.wanted, hgd]
  rw [if_pos hw]
  have hrun : (Builtin.copy_ #[dT, sT] o.type #[.slice (some ⟨g, off, none⟩) dLen dCap, .slice (some ad) sLen sCap]).run P w = .ok (goInt (Nat.min sLen dLen)) (w.setCells g off cs) := by
    have hl := run_loadCells_list (P := P) w ad cs hsrc
    have hst := run_storeCells_cells (P := P) g off cs 0 w (by simpa using hc) (by simpa using hf) h1
    cases hq : P.info? elem with
    | none => simp [hq] at hsz
    | some i =>
      have hi : i.size = 2 := by simpa [hq] using hsz
      simp [Builtin.copy_, run_underlying hu, Builtin.lenOf, Builtin.firstCells, sizeOf, typeInfo, hq, hi, ← hn, hl, hst]
  unfold Oper.wp
  simp [execOp, ho, resolve, invoke, builtin, hd, hs, hrun, Result.andThen]
  exact h

theorem setArr_size : ∀ (vs : List Value) (cs : Array Value) (o : Nat), (Drain.setArr cs o vs).size = cs.size
  | [], _, _ => rfl
  | v :: r, cs, o => by rw [Drain.setArr, setArr_size r]; simp

theorem setArr_get : ∀ (vs : List Value) (cs : Array Value) (o j : Nat), o + vs.length ≤ cs.size → (Drain.setArr cs o vs)[j]? = if o ≤ j ∧ j < o + vs.length then vs[j - o]? else cs[j]?
  | [], cs, o, j, _ => by rw [Drain.setArr, if_neg (by simp)]
  | v :: r, cs, o, j, h => by
    simp only [List.length_cons] at h ⊢
    rw [Drain.setArr, setArr_get r _ _ _ (by simp; omega)]
    by_cases h1 : o + 1 ≤ j ∧ j < o + 1 + r.length
    · rw [if_pos h1, if_pos (by omega), show j - o = (j - (o + 1)) + 1 by omega, List.getElem?_cons_succ]
    · rw [if_neg h1, Array.getElem?_setIfInBounds]
      by_cases h2 : o = j
      · subst h2
        rw [if_pos rfl, if_pos (by omega), if_pos (by omega)]; simp
      · rw [if_neg h2, if_neg (by omega)]

/-- Behind the copy. -/
def AC (wx : World) (cs : Array Value) (n eb : Nat) (wq : World) : Prop :=
  wq.os = wx.os ∧ wq.tape = wx.tape ∧ wq.output = wx.output ∧ wq.heap.size = wx.heap.size ∧ (∀ q, q ≠ eb → wq.heap[q]? = wx.heap[q]?) ∧ ∃ cs1, wq.heap[eb]? = some (.cells cs1 63 (0, 0)) ∧ cs1.size = cs.size ∧ ∀ j, j < n * 2 → cs1[j]? = cs[j + 2]?

theorem ac_zero {wx wq : World} {cs : Array Value} {n eb : Nat} (h : AC wx cs n eb wq) (hs : n * 2 + 2 ≤ cs.size) : AC wx cs n eb (wq.setCells eb (n * 2) [.int .u64 0, .slice none 0 0]) := by
  obtain ⟨q1, q2, q3, q4, q5, cs1, q6, q7, q8⟩ := h
  have hfr := setCells_frame [.int .u64 0, .slice none 0 0] wq eb (n * 2)
  refine ⟨hfr.1.trans q1, hfr.2.1.trans q2, hfr.2.2.1.trans q3, hfr.2.2.2.trans q4, fun q hq => (setCells_other _ _ _ _ _ hq).trans (q5 q hq), _, Drain.setCells_arr _ wq eb (n * 2) 63 cs1 q6, (setArr_size _ _ _).trans q7, fun j hj => ?_⟩
  rw [setArr_get _ _ _ _ (by simp; omega), if_neg (by omega)]
  exact q8 j hj

theorem ac_of {wx : World} {cs : Array Value} {n eb : Nat} {c0s : List Value} (hE : wx.heap[eb]? = some (.cells cs 63 (0, 0))) (hc : c0s = (cs.toList.drop 2).take (n * 2)) (hs : n * 2 + 2 ≤ cs.size) : AC wx cs n eb (wx.drew.setCells eb 0 c0s) := by
  have hfr := setCells_frame c0s wx.drew eb 0
  have hl : c0s.length = n * 2 := by rw [hc]; simp; omega
  refine ⟨hfr.1, hfr.2.1, hfr.2.2.1, hfr.2.2.2, fun q hq => setCells_other _ _ _ _ _ hq, _, Drain.setCells_arr c0s wx.drew eb 0 63 cs hE, setArr_size _ _ _, fun j hj => ?_⟩
  rw [setArr_get _ _ _ _ (by omega), if_pos (by omega), hc, List.getElem?_take]
  simp [hj, Nat.add_comm]

/-- Behind 'removeEntry'. -/
def RM (w : World) (BB eb g n c : Nat) (bc cs : Array Value) (w' : World) : Prop :=
  w'.os = w.os ∧ w'.tape = w.tape ∧ w'.output = w.output ∧ w.heap.size ≤ w'.heap.size ∧ (∀ q, q < w.heap.size → q ≠ BB → q ≠ eb → w'.heap[q]? = w.heap[q]?) ∧ w'.heap[BB]? = some (.cells (bc.setIfInBounds g (.slice (some ⟨eb, 0, none⟩) n c)) 59 (0, 0)) ∧
    ∃ cs', w'.heap[eb]? = some (.cells cs' 63 (0, 0)) ∧ cs'.size = cs.size ∧ ∀ j, j < n * 2 → cs'[j]? = cs[j + 2]?

theorem rm_of {w wx w4 : World} {BB eb g n c : Nat} {bc cs : Array Value} (hb : Below w.heap.size w wx) (h : AC wx cs n eb w4) (hBB : w4.heap[BB]? = some (.cells bc 59 (0, 0))) (hne : BB ≠ eb) :
    RM w BB eb g n c bc cs (w4.setCell ⟨BB, g, none⟩ (.slice (some ⟨eb, 0, none⟩) n c)).drew := by
  obtain ⟨r1, r2, r3, r4, r5, cs2, r6, r7, r8⟩ := h
  refine ⟨r1.trans hb.os, r2.trans hb.tape, r3.trans hb.output, ?_, fun q hq h1 h2 => ?_, ?_, cs2, ?_, r7, r8⟩
  · show _ ≤ (w4.setCell _ _).heap.size
    simp only [World.setCell, Array.size_modify, r4]
    exact hb.size
  · show (w4.setCell _ _).heap[q]? = _
    rw [heap_setCell_other _ _ _ _ (by simpa using h1), r5 q h2, hb.block q hq]
  · exact heap_setCell_same w4 BB g bc 59 _ hBB
  · show (w4.setCell _ _).heap[eb]? = _
    rw [heap_setCell_other _ _ _ _ (by simpa using fun h => hne h.symm), r6]

theorem rm_box {w w5 : World} {BB eb g n c : Nat} {bc cs : Array Value} (vs : List Value) (hBl : BB < w.heap.size) (hEl : eb < w.heap.size) (h : RM w BB eb g n c bc cs w5) : RM w BB eb g n c bc cs (w5.setCells w.heap.size 0 vs) := by
  obtain ⟨r1, r2, r3, r4, r5, r6, cs2, r7, r8, r9⟩ := h
  have hfr := setCells_frame vs w5 w.heap.size 0
  refine ⟨hfr.1.trans r1, hfr.2.1.trans r2, hfr.2.2.1.trans r3, by rw [hfr.2.2.2]; exact r4, fun q hq h1 h2 => (setCells_other _ _ _ _ _ (by omega)).trans (r5 q hq h1 h2), (setCells_other _ _ _ _ _ (by omega)).trans r6, cs2, (setCells_other _ _ _ _ _ (by omega)).trans r7, r8, r9⟩

set_option maxRecDepth 100000 in
set_option maxHeartbeats 400000 in
theorem remove_any (w : World) (B BB eb g n c : Nat) (idle : Bool) (wb : Int) (bc cs : Array Value) (b0 : Int) (s : Option Addr) (l k : Nat) (hn : n ≤ 1024) (hg : g < 3)
    (hB : w.heap[B]? = some (.cells (irmbCells idle wb (.slice (some ⟨BB, 0, none⟩) 3 3)) 58 (0, 0))) (hBB : w.heap[BB]? = some (.cells bc 59 (0, 0))) (_hbc : bc.size = 3) (hbg : bc[g]? = some (.slice (some ⟨eb, 0, none⟩) (n + 1) c))
    (hE : w.heap[eb]? = some (.cells cs 63 (0, 0))) (hsz : cs.size = c * 2) (hnc : n + 1 ≤ c) (_h1 : B ≠ BB) (h2 : B ≠ eb) (h3 : BB ≠ eb) (e0 : cs[0]? = some (.int .u64 b0)) (e1 : cs[1]? = some (.slice s l k)) (hone : ∀ v, v ∈ (cs.toList.drop 2).take (n * 2) → v.oneCell' = true) :
    Calls Yba.prog 17 #[.pointer (some ⟨B, 0, none⟩), .int .i64 g, .int .i64 0] w fun e w' => e = .returned (.agg #[.int .u64 b0, .slice s l k]) ∧ RM w BB eb g n c bc cs w' := by
  have c0 : w.cell? ⟨B, 9, none⟩ = some (.slice (some ⟨BB, 0, none⟩) 3 3) := by rw [cell_of_row _ _ _ _ _ _ hB]; rfl
  have c1 : w.cell? ⟨BB, g, none⟩ = some (.slice (some ⟨eb, 0, none⟩) (n + 1) c) := by rw [cell_of_row _ _ _ _ _ _ hBB]; exact hbg
  have c2 : w.cell? ⟨eb, 0, none⟩ = some (.int .u64 b0) := by rw [cell_of_row _ _ _ _ _ _ hE]; exact e0
  have c3 : w.cell? ⟨eb, 1, none⟩ = some (.slice s l k) := by rw [cell_of_row _ _ _ _ _ _ hE]; exact e1
  have l0 := lt_of_block hB
  have l1 := lt_of_block hBB
  have l2 := lt_of_block hE
  have HB := hide hB
  have HBB := hide hBB
  have HE := hide hE
  clear hB hBB hE
  go_enter Yba.func17, Yba.ntmps17
  go_wp2_with fail
  generalize hwx : (w.alloc _).alloc _ = wx
  have hbx : Below w.heap.size w wx := by rw [← hwx]; exact ((Below.refl _ _).alloc (Nat.le_refl _) _).alloc (by simp) _
  have hx1 : wx.heap[w.heap.size + 1]? = some (.cells #[.int .u64 b0, .slice s l k] 63 (0, 0)) := by rw [← hwx]; exact heap_alloc2_new w _ _
  have hx0 : wx.heap[w.heap.size]? = some (.cells #[.int .u64 0, .slice none 0 0] 63 (0, 0)) := by rw [← hwx, Below.heap_alloc _ _ _ (by simp)]; exact heap_alloc_new w _
  have hEx : wx.heap[eb]? = some (.cells cs 63 (0, 0)) := (hbx.block _ l2).trans HE.out
  obtain ⟨c0s, hc0s⟩ : ∃ c0s, c0s = (cs.toList.drop 2).take (n * 2) := ⟨_, rfl⟩
  have hlen : c0s.length = Nat.min n (n + 1) * 2 := by rw [hc0s]; simp; omega
  have hsrc : ∀ j v, c0s[j]? = some v → wx.drew.cell? ((⟨eb, 2, none⟩ : Addr).add j) = some v := by
    intro j v hv
    rw [Addr.add_lit, show wx.drew.cell? ⟨eb, 2 + j, none⟩ = wx.cell? ⟨eb, 2 + j, none⟩ from rfl, cell_of_row _ _ _ _ _ _ hEx]
    rw [hc0s, List.getElem?_take] at hv
    split at hv
    · simpa using hv
    · simp at hv
  have HSR := hide hsrc
  have HLN := hide hlen
  have HEX := hide hEx
  have HON : Hid (∀ v ∈ c0s, v.oneCell' = true) := hide (by rw [hc0s]; exact hone)
  have HCC : Hid (∀ j, j < c0s.length → (wx.drew.cell? ⟨eb, 0 + j, none⟩).isSome = true) := hide (fun j hj => by
    rw [show wx.drew.cell? ⟨eb, 0 + j, none⟩ = wx.cell? ⟨eb, 0 + j, none⟩ from rfl, cell_of_row _ _ _ _ _ _ hEx, Nat.zero_add, Array.getElem?_eq_getElem (by rw [hlen] at hj; simp at hj; omega)]; rfl)
  have HFF : Hid (∀ j, j < c0s.length → wx.drew.frozen? ⟨eb, 0 + j, none⟩ = false) := hide (fun j hj => frozen_of_row _ _ _ _ _ (show wx.drew.heap[eb]? = _ from hEx))
  have HC := hide hc0s
  have HX0 := hide hx0
  have HX1 := hide hx1
  have HBX := hide hbx
  clear hwx hbx hx1 hx0 hEx hc0s hlen hsrc c0 c1 c2 c3 hone
  have hp0 : (0 : Int) ≤ (n : Int) + 1 := by omega
  have hw1 : IntKind.i64.wrap 1 = 1 := by decide
  have hp1 : IntKind.i64.wrap 1 ≤ (n : Int) + 1 := by rw [hw1]; omega
  have hp2 : 0 ≤ IntKind.i64.wrap 1 := by rw [hw1]; omega
  have HW := hide hw1
  clear hw1
  by_cases hc1 : c = (IntKind.i64.wrap 1).toNat
  case' pos =>
    have hn0 : n = 0 := by rw [hc1, HW.out] at hnc; simp at hnc; omega
    have hc00 : c0s = [] := List.length_eq_zero_iff.mp (by rw [HLN.out, hn0]; rfl)
    have HSS : Hid (∀ (ad : Addr) j v, c0s[j]? = some v → wx.drew.cell? (ad.add j) = some v) := hide (by intro ad j v hv; rw [hc00] at hv; simp at hv)
    clear hn0 hc00
    go_region_law (refine step_copy2 rfl (.tmp 23) (.tmp 27) 59 59 rfl 63 Yba.underlying59 hi63 eb 0 (n + 1) c ⟨eb, 0, none⟩ (n + 1 - (IntKind.i64.wrap 1).toNat) (c - (IntKind.i64.wrap 1).toNat) (by simp [Act.eval, Act.put, hc1]) (by simp [Act.eval, Act.put, hc1]) c0s (by rw [HW.out]; exact HLN.out) (HSS.out _) HCC.out HFF.out HON.out ?_)
    rw [← hc1]
    clear hc1 HSS
  case' neg =>
    go_region_law (refine step_copy2 rfl (.tmp 23) (.tmp 27) 59 59 rfl 63 Yba.underlying59 hi63 eb 0 (n + 1) c ⟨eb, (IntKind.i64.wrap 1).toNat * 2, none⟩ (n + 1 - (IntKind.i64.wrap 1).toNat) (c - (IntKind.i64.wrap 1).toNat) (by simp [Act.eval, Act.put]) (by simp [Act.eval, Act.put]) c0s (by rw [HW.out]; exact HLN.out) (by rw [HW.out]; exact HSR.out) HCC.out HFF.out HON.out ?_)
  all_goals
    refine Pop.exit_letter (fun wq => AC wx cs n eb wq) (ac_of HEX.out HC.out (by omega)) ?_
    intro wq hq
    have HAC := hide hq
    obtain ⟨q1, q2, q3, q4, q5, cs1, q6, q7, q8⟩ := hq
    have hth : wq.there eb (n * 2) 2 := fun j hj => ⟨by rw [cell_of_row _ _ _ _ _ _ q6, Array.getElem?_eq_getElem (by omega)]; rfl, frozen_of_row _ _ _ _ _ q6⟩
    have HTH := hide hth
    clear HSR HLN HON HCC HFF
    go_wp2_with (first | (refine Pop.wpList_store_stop rfl 63 (.tmp 35) (.tmp 34) rfl ?_) | fail)
    refine ⟨1, rfl, ?_⟩
    refine Pop.wpList_store_at rfl 63 (.tmp 35) (.tmp 34) rfl eb (n * 2) 2 [.int .u64 0, .slice none 0 0] rfl ?hx ?hy ?hi ?h1 ?ht ?_
    case hx => rfl
    case hy => rfl
    case hi => exact hi63
    case h1 => simp [Value.oneCell']
    case ht => exact HTH.out
    refine Pop.wpList_letter (fun wq => AC wx cs n eb wq) (ac_zero HAC.out (by omega)) ?_
    intro w4 h4
    have H4 := hide h4
    obtain ⟨r1, r2, r3, r4, r5, cs2, r6, r7, r8⟩ := h4
    have b4 : w4.heap[B]? = some (.cells (irmbCells idle wb (.slice (some ⟨BB, 0, none⟩) 3 3)) 58 (0, 0)) := (r5 B h2).trans ((HBX.out.block _ l0).trans HB.out)
    have bb4 : w4.heap[BB]? = some (.cells bc 59 (0, 0)) := (r5 BB h3).trans ((HBX.out.block _ l1).trans HBB.out)
    have y0 : w4.heap[w.heap.size]? = some (.cells #[.int .u64 0, .slice none 0 0] 63 (0, 0)) := (r5 _ (by omega)).trans HX0.out
    have y1 : w4.heap[w.heap.size + 1]? = some (.cells #[.int .u64 b0, .slice s l k] 63 (0, 0)) := (r5 _ (by omega)).trans HX1.out
    have d0 : w4.drew.cell? ⟨B, 9, none⟩ = some (.slice (some ⟨BB, 0, none⟩) 3 3) := by rw [show w4.drew.cell? ⟨B, 9, none⟩ = w4.cell? ⟨B, 9, none⟩ from rfl, cell_of_row _ _ _ _ _ _ b4]; rfl
    have d1 : w4.drew.cell? ⟨BB, g, none⟩ = some (.slice (some ⟨eb, 0, none⟩) (n + 1) c) := by rw [show w4.drew.cell? ⟨BB, g, none⟩ = w4.cell? ⟨BB, g, none⟩ from rfl, cell_of_row _ _ _ _ _ _ bb4]; exact hbg
    have d2 : w4.drew.frozen? ⟨BB, g, none⟩ = false := frozen_of_row _ _ _ _ _ (show w4.drew.heap[BB]? = _ from bb4)
    have HB4 := hide b4
    have HBB4 := hide bb4
    have HY0 := hide y0
    have HY1 := hide y1
    clear q1 q2 q3 q4 q5 q6 q7 q8 r1 r2 r3 r4 r5 r6 r7 r8 b4 bb4 y0 y1 HTH hth HAC
    have hnc2 : n ≤ c := by omega
    have hgi : (g : Int) < 3 := by omega
    go_wp2_with fail
    go_region
    refine Pop.exit_letter (fun w5 => RM w BB eb g n c bc cs w5 ∧ w5.heap[w.heap.size]? = some (.cells #[.int .u64 0, .slice none 0 0] 63 (0, 0)) ∧ w5.heap[w.heap.size + 1]? = some (.cells #[.int .u64 b0, .slice s l k] 63 (0, 0))) ⟨rm_of HBX.out H4.out HBB4.out h3, (heap_setCell_other _ _ _ _ (by simp; omega)).trans HY0.out, (heap_setCell_other _ _ _ _ (by simp; omega)).trans HY1.out⟩ ?_
    rintro w5 ⟨hrm, z0, z1⟩
    have HRM := hide hrm
    have x0 : w5.cell? ⟨w.heap.size + 1, 0, none⟩ = some (.int .u64 b0) := by rw [cell_of_row _ _ _ _ _ _ z1]; rfl
    have x1 : w5.cell? ⟨w.heap.size + 1, 1, none⟩ = some (.slice s l k) := by rw [cell_of_row _ _ _ _ _ _ z1]; rfl
    have HT0 : Hid (w5.there w.heap.size 0 2) := hide (fun j hj => ⟨by rw [Nat.zero_add, cell_of_row _ _ _ _ _ _ z0, Array.getElem?_eq_getElem (by simpa using hj)]; rfl, frozen_of_row _ _ _ _ _ z0⟩)
    have HZ0 := hide z0
    clear hrm z0 z1 HY0 HY1 HB4 HBB4 H4 d0 d1 d2
    go_wp2_with (first | (refine Pop.wpList_store_stop rfl 63 (.tmp 6) (.tmp 45) rfl ?_) | fail)
    refine ⟨1, rfl, ?_⟩
    refine Pop.wpList_store_at rfl 63 (.tmp 6) (.tmp 45) rfl w.heap.size 0 2 [.int .u64 b0, .slice s l k] rfl ?hx ?hy ?hi ?h1 ?ht ?_
    case hx => rfl
    case hy => rfl
    case hi => exact hi63
    case h1 => simp [Value.oneCell']
    case ht => exact HT0.out
    refine Pop.wpList_letter (fun w6 => RM w BB eb g n c bc cs w6 ∧ w6.heap[w.heap.size]? = some (.cells #[.int .u64 b0, .slice s l k] 63 (0, 0))) ⟨rm_box _ l1 l2 HRM.out, Drain.setCells_arr _ w5 w.heap.size 0 63 _ HZ0.out⟩ ?_
    rintro w6 ⟨hrm6, z6⟩
    have x2 : w6.cell? ⟨w.heap.size, 0, none⟩ = some (.int .u64 b0) := by rw [cell_of_row _ _ _ _ _ _ z6]; rfl
    have x3 : w6.cell? ⟨w.heap.size, 1, none⟩ = some (.slice s l k) := by rw [cell_of_row _ _ _ _ _ _ z6]; rfl
    have HRM6 := hide hrm6
    clear hrm6 HRM
    go_wp2_with fail
    refine bodyPost_ret (v := .agg #[.int .u64 b0, .slice s l k]) ?_ rfl ⟨rfl, HRM6.out⟩
    simp [results, Yba.results17, go_sem, x2, x3]
end Go.Proofs.Ybulkmvu.Irmb
