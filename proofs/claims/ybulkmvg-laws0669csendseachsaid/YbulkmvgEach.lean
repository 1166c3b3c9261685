/-
  'LawS0669CSendsEach': the walk.
-/
import Derived.Test.YbulkmvgAll
namespace Go.Proofs.Ybulkmvg.Each
open Go.RowKit Go.Proofs.Ybulkmvg.Net Go.Proofs.Ybulkmvg.Send Go.Proofs.Ybulkmvg.Retry Go.Proofs.Ybulkmvg.All

theorem info89 : (Yba.prog.info? 89).map (fun i => (i.zero.map (·.cells.size), i.size, i.bytes)) = some (some 28, 28, 376) := by kernel_rfl
theorem info89p : ∃ i z, Yba.prog.info? 89 = some i ∧ i.zero = some z ∧ z.cells.size = 28 ∧ i.size = 28 ∧ i.bytes = 376 := by
  obtain ⟨i, hi, h⟩ := Option.map_eq_some_iff.1 info89
  simp only [Prod.mk.injEq] at h
  obtain ⟨z, hz, hzc⟩ := Option.map_eq_some_iff.1 h.1
  exact ⟨i, z, hi, hz, hzc, h.2.1, h.2.2⟩

def inCells (q : Pr) : List Value := [.string q.site, .int .i64 q.n, .string q.txn, .int .i64 q.stamp, .string q.home, .int .i64 q.seq]

/-- The probes' plain data, as they came in. -/
def InAt (w : World) (ka : Option Addr) (qs : List Pr) : Prop := ∀ i q, qs[i]? = some q → ∃ b off, ka = some ⟨b, off, none⟩ ∧ w.rangeAt b (off + i * 6) (inCells q)

theorem setCells_other : ∀ (vs : List Value) (w : World) (b o k : Nat), k ≠ b → (w.setCells b o vs).heap[k]? = w.heap[k]?
  | [], _, _, _, _, _ => rfl
  | v :: r, w, b, o, k, h => by
    rw [World.setCells, setCells_other r _ b (o + 1) k h, heap_setCell_other _ _ _ _ (by simpa using h)]

theorem setCells_same {t : TypeId} : ∀ (vs : List Value) (w : World) (b o : Nat) (cs : Array Value), w.heap[b]? = some (.cells cs t (0, 0)) → ∃ cs', (w.setCells b o vs).heap[b]? = some (.cells cs' t (0, 0)) ∧ cs'.size = cs.size
  | [], _, _, _, cs, h => ⟨cs, h, rfl⟩
  | v :: r, w, b, o, cs, h => by
    obtain ⟨cs', h1, h2⟩ := setCells_same r (w.setCell ⟨b, o, none⟩ v) b (o + 1) _ (heap_setCell_same w b o cs t v h)
    exact ⟨cs', h1, by simpa using h2⟩

theorem wpList_store_at {P : Program} {ops : Array Oper} {rest : List Oper} {op : Oper} {a : Act} {w : World} {Q : Exit → Act → World → Prop} (hgd : op.guard = none) (ty : TypeId) (x y : Operand) (ho : op.op = .store ty x y)
    (b o n : Nat) (cells : List Value) (hn : cells.length = n) (hx : a.eval x = .pointer (some ⟨b, o, none⟩)) (hy : a.eval y = .agg cells.toArray)
    (hi : (P.info? ty).map (·.size) = some n) (h1 : cells.toArray.all (·.oneCell') = true) (ht : w.there b o n)
    (h : wpList P ops Q rest (a.put op.dst undef) (w.setCells b o cells)) : wpList P ops Q (op :: rest) a w :=
  wpList_store_mid hgd ty x y ho b o cells.toArray hx hy (by simpa [hn] using ht) (by simpa [hn] using hi) h1 (by simpa using h)

/-- What holds at the head of each round of the first loop: i probes are laid. -/
def Inv1 (w : World) (name : ByteArray) (W N PA PV : Nat) (qs : List Pr) (i : Nat) (wr : World) : Prop :=
  Below w.heap.size w wr ∧ NodeAt wr N W name ∧ wr.heap[W]? = some (.cells #[.slice none 0 0] 37 (0, 0)) ∧ wr.heap[PV]? = some (.cells #[.slice (some ⟨PA, 0, none⟩) qs.length qs.length] 70 (0, 0)) ∧
  (∃ cs, wr.heap[PA]? = some (.cells cs 89 (0, 0)) ∧ cs.size = qs.length * 28) ∧ ∀ k q, k < i → qs[k]? = some q → wr.rangeAt PA (k * 28) (prCells q)

theorem Inv1.there {w wr wx : World} {name : ByteArray} {W N PA PV : Nat} {qs : List Pr} {i : Nat} (h : Inv1 w name W N PA PV qs i wr) (hb : Below wr.heap.size wr wx) (hi : i < qs.length) : wx.there PA (i * 28) 28 := by
  obtain ⟨_, _, _, _, ⟨cs, hcs, hsz⟩, _⟩ := h
  have hx : wx.heap[PA]? = some (.cells cs 89 (0, 0)) := by rw [hb.block PA (lt_of_block hcs)]; exact hcs
  intro j hj
  exact ⟨by rw [cell_of_row _ _ _ _ _ _ hx, Array.getElem?_eq_getElem (by omega)]; rfl, frozen_of_row _ _ _ _ _ hx⟩

theorem Inv1.step {w wr wx : World} {name : ByteArray} {W N PA PV : Nat} {qs : List Pr} {i : Nat} {q : Pr} (h : Inv1 w name W N PA PV qs i wr) (hb : Below wr.heap.size wr wx) (hq : qs[i]? = some q) (hP : w.heap.size ≤ PA) :
    Inv1 w name W N PA PV qs (i + 1) (wx.setCells PA (i * 28) (prCells q)) := by
  have hi : i < qs.length := (List.getElem?_eq_some_iff.1 hq).1
  have hth := h.there hb hi
  obtain ⟨h1, h2, h3, h4, ⟨cs, hcs, hsz⟩, h6⟩ := h
  have hx : wx.heap[PA]? = some (.cells cs 89 (0, 0)) := by rw [hb.block PA (lt_of_block hcs)]; exact hcs
  have hbx : Below w.heap.size w wx := h1.trans (hb.mono h1.size)
  have oth : ∀ (k : Nat) (c : Array Value) (t : TypeId), t ≠ 89 → wr.heap[k]? = some (.cells c t (0, 0)) → (wx.setCells PA (i * 28) (prCells q)).heap[k]? = some (.cells c t (0, 0)) := fun k c t ht hk => by
    rw [setCells_other _ _ _ _ _ ?_, hb.block k (lt_of_block hk)]
    · exact hk
    · intro e
      subst e
      rw [hcs] at hk
      simp at hk
      exact ht hk.2.symm
  refine ⟨belowSet _ _ _ _ hbx hP, ?_, oth W _ 37 (by decide) h3, oth PV _ 70 (by decide) h4, ?_, ?_⟩
  · obtain ⟨c, h0, hc⟩ := h2
    exact ⟨c, oth N c 69 (by decide) h0, hc⟩
  · obtain ⟨cs', e1, e2⟩ := setCells_same (prCells q) wx PA (i * 28) cs hx
    exact ⟨cs', e1, by omega⟩
  · intro k q' hk hq'
    by_cases hki : k < i
    · refine World.rangeAt_setCells_apart (fun j v hv => cell_later hb (h6 k q' hki hq' j v hv)) _ _ _ (Or.inr (Or.inl ?_))
      rw [prLen]
      omega
    · obtain rfl : k = i := by omega
      rw [hq] at hq'
      simp only [Option.some.injEq] at hq'
      subst hq'
      exact World.rangeAt_setCells_same _ _ _ _ hth

theorem inv1_start {w w3 : World} {name : ByteArray} {qs : List Pr} {xs : List Value}
    (hgr : ((w.alloc (.cells #[.slice none 0 0] 37)).alloc (.cells #[.string name, .iface 34 (.pointer (some ⟨w.heap.size, 0, none⟩)), .nilIface, .bool false, .bool false, .bool false, .int .i64 0, .map none, .map none, .map none, .string ⟨#[]⟩, .int .i64 0, .map none, .int .i64 0, .map none, .map none, .int .i64 0, .map none, .int .i64 0, .map none, .int .i64 0, .map none, .map none, .map none, .int .i64 0, .map none, .map none, .slice none 0 0, .slice none 0 0, .slice none 0 0, .nilIface, .int .i64 0, .map none, .int .i64 0] 69)).grownBy w3 none)
    (hown : w3.ownsRow (w.heap.size + 1 + 1) 89 28 (.slice (some ⟨w.heap.size + 1 + 1, 0, none⟩) qs.length qs.length) qs.length xs) :
    w.heap.size + 1 + 1 < w3.heap.size ∧ Inv1 w name w.heap.size (w.heap.size + 1) (w.heap.size + 1 + 1) w3.heap.size qs 0 (w3.alloc (.cells #[.slice (some ⟨w.heap.size + 1 + 1, 0, none⟩) qs.length qs.length] 70)) := by
  have hlt : w.heap.size + 1 + 1 < w3.heap.size := (hown.lt _ rfl).2
  have hb2 : Below (w.heap.size + 1 + 1) ((w.alloc (.cells #[.slice none 0 0] 37)).alloc _) w3 := ⟨hgr.os, hgr.tape, hgr.output, hgr.size, fun k hk => hgr.block k (by simp; omega) (by simp)⟩
  have hbw : Below w.heap.size w w3 := (((Below.refl _ _).alloc (Nat.le_refl _) _).alloc (by simp) _).trans (hb2.mono (by omega))
  have e0 : w3.heap[w.heap.size]? = some (.cells #[.slice none 0 0] 37 (0, 0)) := by
    rw [hb2.block _ (by omega)]
    exact heap_alloc2_old w _ _
  have old : ∀ k, k < w3.heap.size → (w3.alloc (.cells #[.slice (some ⟨w.heap.size + 1 + 1, 0, none⟩) qs.length qs.length] 70)).heap[k]? = w3.heap[k]? := fun k hk => Below.heap_alloc _ _ _ hk
  refine ⟨hlt, hbw.alloc (by omega) _, ?_, ?_, heap_alloc_new _ _, ?_, fun k q hk => absurd hk (by omega)⟩
  · have e1 := (old _ (by omega)).trans ((hb2.block (w.heap.size + 1) (by omega)).trans (heap_alloc2_new w _ _))
    exact ⟨_, e1, rfl, rfl, rfl, rfl⟩
  · rw [old _ (by omega)]; exact e0
  · rcases hown.2 with ⟨h, _⟩ | ⟨g, cap, cur, hv, _, hg, _, _, hcs, _⟩
    · simp at h
    · simp only [Value.slice.injEq, Option.some.injEq, Addr.mk.injEq, and_true, true_and] at hv
      obtain ⟨rfl, rfl⟩ := hv
      exact ⟨cur, by rw [old _ (by omega)]; exact hg, hcs⟩

theorem msgLen (name : ByteArray) (q : Pr) (pb : Nat) : (msgCells name q pb).length = 15 := rfl
theorem hi98 : (Yba.prog.info? 98).map (·.size) = some 15 := by kernel_rfl
theorem msgOne (name : ByteArray) (q : Pr) (pb : Nat) : (msgCells name q pb).toArray.all (·.oneCell') = true := by
  simp only [msgCells, List.all_toArray, List.all_cons, List.all_nil]
  rfl

theorem logCells_at (name : ByteArray) : ∀ (l : List (Pr × Nat)) (i : Nat) (x : Pr × Nat), l[i]? = some x → ∀ r v, (msgCells name x.1 x.2)[r]? = some v → (logCells name l)[i * 15 + r]? = some v
  | [], _, _, h => by simp at h
  | y :: l, 0, x, h => by
    intro r v hv
    simp only [List.getElem?_cons_zero, Option.some.injEq] at h
    subst h
    have hr : r < 15 := (List.getElem?_eq_some_iff.1 hv).1
    show (msgCells name y.1 y.2 ++ logCells name l)[0 * 15 + r]? = some v
    rw [Nat.zero_mul, Nat.zero_add, List.getElem?_append_left (by rw [msgLen]; exact hr)]
    exact hv
  | y :: l, i + 1, x, h => by
    intro r v hv
    have hx : l[i]? = some x := by simpa using h
    have ih := logCells_at name l i x hx r v hv
    show (msgCells name y.1 y.2 ++ logCells name l)[(i + 1) * 15 + r]? = some v
    rw [List.getElem?_append_right (by rw [msgLen]; omega), msgLen]
    have e : (i + 1) * 15 + r - 15 = i * 15 + r := by omega
    rw [e]
    exact ih

/-- A row stored into a block that was just made, its number a letter. -/
theorem wpList_store_new2 {P : Program} {ops : Array Oper} {rest : List Oper} {op : Oper} {a : Act} {w : World} {Q : Exit → Act → World → Prop} (hgd : op.guard = none) (ty : TypeId) (x y : Operand) (ho : op.op = .store ty x y)
    (H : Nat) (hH : w.heap.size = H) (c : Array Value) (t : TypeId) (n : Nat) (cells : List Value) (hn : cells.length = n) (hx : a.eval x = .pointer (some ⟨H, 0, none⟩)) (hy : a.eval y = .agg cells.toArray)
    (hi : (P.info? ty).map (·.size) = some n) (h1 : cells.toArray.all (·.oneCell') = true) (hc : n ≤ c.size)
    (h : ∀ w', w'.rangeAt H 0 cells → Below H w w' → wpList P ops Q rest (a.put op.dst undef) w') : wpList P ops Q (op :: rest) a (w.alloc (.cells c t)) := by
  subst hH
  subst hn
  exact wpList_store_new hgd ty x y ho c t cells hx hy hc hi h1 h

theorem wpList_load_stop {P : Program} {ops : Array Oper} {rest : List Oper} {op : Oper} {a : Act} {w : World} {Q : Exit → Act → World → Prop} (_hgd : op.guard = none) (ty : TypeId) (x : Operand) (_ho : op.op = .load ty x)
    (h : ∃ n : Nat, n = 1 ∧ wpList P ops Q (op :: rest) a w) : wpList P ops Q (op :: rest) a w := h.elim fun _ h => h.2
theorem wpList_store_stop {P : Program} {ops : Array Oper} {rest : List Oper} {op : Oper} {a : Act} {w : World} {Q : Exit → Act → World → Prop} (_hgd : op.guard = none) (ty : TypeId) (x y : Operand) (_ho : op.op = .store ty x y)
    (h : ∃ n : Nat, n = 1 ∧ wpList P ops Q (op :: rest) a w) : wpList P ops Q (op :: rest) a w := h.elim fun _ h => h.2

set_option maxRecDepth 100000 in
set_option maxHeartbeats 1000000 in
theorem walk (name : ByteArray) (ka : Option Addr) (cap : Nat) (qs : List Pr) (w : World) (hlen : qs.length ≤ 1024) (hin : InAt w ka qs) :
    Calls Yba.prog 5 #[.string name, .slice ka qs.length cap] w fun e w' => e = .returned (.bool true) ∧ Below w.heap.size w w' := by
  obtain ⟨i0, z, hi, hz0, hzs, hz1, hz2⟩ := info89p
  have HI := hide hin
  clear hin
  go_enter Yba.func5, Yba.ntmps5
  go_wp2_with (at_make; refine wpList_make_full _ rfl _ _ 70 rfl (w.heap.size + 1 + 1) 89 i0 z 28 Yba.underlying70 hi hz0 hz1 _ _ _ _ qs.length rfl rfl (by omega) (by omega) (by rw [hz2]; omega) (by unfold maxLen; omega) (by simp) ?_; intro w3 hown3 hgr3; have HO3 := hide hown3; have HG3 := hide hgr3; clear hown3 hgr3)
  have ho3 := HO3.out
  simp only [World.size_alloc] at ho3
  obtain ⟨h3lt, hinv⟩ := inv1_start HG3.out ho3
  have HV := hide hinv
  clear hinv ho3 HO3 HG3 hz0 hz1 hz2 hzs hi
  go_loopw [28] (fun i wr => ∃ j : Nat, j ≤ qs.length ∧ i = .int .i64 j ∧ Inv1 w name w.heap.size (w.heap.size + 1) (w.heap.size + 1 + 1) w3.heap.size qs j wr) (fun i _ => qs.length - (intOf i).toNat)
  case atStart => exact ⟨0, Nat.zero_le _, rfl, HV.out⟩
  case round =>
    obtain ⟨j, hj, rfl, hrel⟩ := hrel
    have HR := hide hrel
    clear hrel HV
    by_cases hlt : j < qs.length
    · obtain ⟨q, hq⟩ : ∃ q, qs[j]? = some q := ⟨_, List.getElem?_eq_getElem hlt⟩
      obtain ⟨b, off, rfl, hr⟩ := HI.out j q hq
      have hbw := HR.out.1
      have c0 := cell_later hbw (hr 0 _ rfl)
      have c1 := cell_later hbw (hr 1 _ rfl)
      have c2 := cell_later hbw (hr 2 _ rfl)
      have c3 := cell_later hbw (hr 3 _ rfl)
      have c4 := cell_later hbw (hr 4 _ rfl)
      have c5 := cell_later hbw (hr 5 _ rfl)
      simp only [Nat.add_zero] at c0
      have hpv := HR.out.2.2.2.1
      have cv : wr.cell? ⟨w3.heap.size, 0, none⟩ = some (.slice (some ⟨w.heap.size + 1 + 1, 0, none⟩) qs.length qs.length) := by rw [cell_of_row _ _ _ _ _ _ hpv]; rfl
      have hvlt := lt_of_block hpv
      have HQ := hide hq
      clear hr hq hbw hpv
      go_wp2_with (first
        | (refine wpList_store_stop rfl 89 (.tmp 53) (.tmp 52) rfl ?_)
        | fail)
      refine ⟨1, rfl, ?_⟩
      refine wpList_store_at rfl 89 (.tmp 53) (.tmp 52) rfl (w.heap.size + 1 + 1) (j * 28) 28 (prCells q) (prLen q) ?hx ?hy ?hi ?h1 ?ht ?_
      case hx => rfl
      case hy => rfl
      case hi => exact hi89
      case h1 => exact prOne q
      case ht => exact HR.out.there ((Below.refl _ _).alloc (Nat.le_refl _) _) hlt
      have hstep := HR.out.step (wx := wr.alloc (.cells #[.string q.site, .int .i64 q.n, .string q.txn, .int .i64 q.stamp, .string q.home, .int .i64 q.seq] 72)) ((Below.refl _ _).alloc (Nat.le_refl _) _) HQ.out (by omega)
      have HST := hide hstep
      clear hstep c0 c1 c2 c3 c4 c5 cv
      go_wp2_with fail
      go_roundw
      case rel => exact ⟨j + 1, by omega, by go_num, HST.out⟩
      case measure => simp [intOf]; omega
    · obtain rfl : j = qs.length := by omega
      obtain ⟨hbw, hnode, hW0, hpv, ⟨cs, hpa, _⟩, hrng⟩ := HR.out
      have hs0 : Sent w.heap.size w.heap.size name [] wr := ⟨⟨none, 0, hW0, World.ownsRow_nil _ _ _ _⟩, fun x hx => by simp at hx⟩
      have hpr : ProbesAt wr (w.heap.size + 1 + 1) qs := ⟨⟨cs, hpa⟩, fun i q hq => hrng i q (List.getElem?_eq_some_iff.1 hq).1 hq⟩
      have HS0 := hide hs0
      have HPR := hide hpr
      have HNO := hide hnode
      have HPV := hide hpv
      have HBW := hide hbw
      clear hs0 hpr hnode hpv hbw hW0 hpa hrng HR
      go_wp2_with fail
      refine (retryAll_any w.heap.size w.heap.size (w.heap.size + 1) w3.heap.size (w.heap.size + 1 + 1) qs wr name HS0.out hlen (Nat.le_refl _) (by omega) (by omega) (by omega) (by omega) HNO.out HPV.out HPR.out).mono ?_
      rintro e w4 ⟨rfl, l, hl, hsent, hpv4, hb4⟩
      obtain ⟨⟨ao, cap4, hW4, hown4⟩, hpbs⟩ := hsent
      have hll : l.length = qs.length := by rw [← hl]; simp
      have cv : w4.cell? ⟨w3.heap.size, 0, none⟩ = some (.slice none 0 0) := by rw [cell_of_row _ _ _ _ _ _ hpv4]; rfl
      have cw : w4.cell? ⟨w.heap.size, 0, none⟩ = some (.slice ao qs.length cap4) := by rw [cell_of_row _ _ _ _ _ _ hW4, ← hll]; rfl
      have hne := fun w => run_neq_slice_nil_any (P := Yba.prog) w 70 89 none 0 0 0 0 Yba.underlying70
      have HL := hide hl
      have HLL := hide hll
      have HO4 := hide hown4
      have HPB := hide hpbs
      have HB4 := hide (HBW.out.trans hb4)
      clear hl hll hown4 hpbs hb4 hpv4 hW4 HS0 HPR HNO HPV HBW
      go_wp2_with fail
      clear cv hne
      go_loopw [69] (fun i wr => ∃ j : Nat, j ≤ qs.length ∧ i = .int .i64 j ∧ Below w4.heap.size w4 wr) (fun i _ => qs.length - (intOf i).toNat)
      case atStart => exact ⟨0, Nat.zero_le _, rfl, Below.refl _ _⟩
      case round =>
        obtain ⟨j, hj, rfl, hbr⟩ := hrel
        have HBR := hide hbr
        by_cases hlt : j < qs.length
        · obtain ⟨q, hq⟩ : ∃ q, qs[j]? = some q := ⟨_, List.getElem?_eq_getElem hlt⟩
          obtain ⟨b, off, rfl, hr⟩ := HI.out j q hq
          have hbw : Below w.heap.size w wr := HB4.out.trans (hbr.mono HB4.out.size)
          have c0 := cell_later hbw (hr 0 _ rfl)
          have c1 := cell_later hbw (hr 1 _ rfl)
          have c2 := cell_later hbw (hr 2 _ rfl)
          have c3 := cell_later hbw (hr 3 _ rfl)
          have c4 := cell_later hbw (hr 4 _ rfl)
          have c5 := cell_later hbw (hr 5 _ rfl)
          simp only [Nat.add_zero] at c0
          have cw2 := cell_later hbr cw
          have hwlt := block_lt_of_cell cw2
          obtain ⟨pb, hpb⟩ : ∃ pb, l[j]? = some (q, pb) := by
            have h1 : (l.map (·.1))[j]? = some q := by rw [HL.out]; exact hq
            rw [List.getElem?_map] at h1
            obtain ⟨x, hx, hxq⟩ := Option.map_eq_some_iff.1 h1
            exact ⟨x.2, by rw [hx, ← hxq]⟩
          have hnew := (HPB.out (q, pb) (List.mem_of_getElem? hpb)).2
          have hnr : wr.heap[pb]? = some (.cells (newCells q) 89 (0, 0)) := by rw [hbr.block pb (lt_of_block hnew)]; exact hnew
          obtain ⟨g, capg, hg⟩ : ∃ g capg, ao = some ⟨g, 0, none⟩ ∧ cap4 = capg := by
            obtain ⟨g, cg, hv, _, _⟩ := HO4.out.form (by have := HLL.out; omega)
            simp only [Value.slice.injEq] at hv
            exact ⟨g, cg, hv.1, hv.2.2⟩
          obtain ⟨rfl, rfl⟩ := hg
          have hrm : wr.rangeAt g (j * 15) (msgCells name q pb) := fun r v hv => by
            have e := HO4.out.cells (g := g) rfl _ _ (logCells_at name l j (q, pb) hpb r v hv)
            rw [Addr.add_lit, Nat.zero_add] at e
            exact cell_later hbr e
          have HNR := hide hnr
          clear hr hq hbr hpb hnew hbw hnr cw
          go_wp2_with (first | (refine wpList_load_stop rfl 98 (.tmp 79) rfl ?_) | fail)
          refine ⟨1, rfl, ?_⟩
          refine wpList_load_mid rfl 98 (.tmp 79) rfl g (j * 15) ?hx (msgCells name q pb) _ ?hc Yba.underlying98 rfl ?hi ?_
          case hx => rfl
          case hc => exact World.rangeAt_alloc hrm _
          case hi => exact hi98
          go_wp2_with (first | (refine wpList_store_stop rfl 98 (.tmp 12) (.tmp 80) rfl ?_) | fail)
          refine ⟨1, rfl, ?_⟩
          refine wpList_store_new2 rfl 98 (.tmp 12) (.tmp 80) rfl (wr.heap.size + 1) ?hH _ _ 15 (msgCells name q pb) (msgLen name q pb) ?hx ?hy ?hi ?h1 ?hc ?_
          case hH => simp
          case hx => rfl
          case hy => rfl
          case hi => exact hi98
          case h1 => exact msgOne _ _ _
          case hc => simp
          intro w5 hr5 hb5
          have m0 := hr5 0 _ rfl
          have m1 := hr5 1 _ rfl
          have m2 := hr5 2 _ rfl
          have m3 := hr5 3 _ rfl
          have m4 := hr5 4 _ rfl
          have m5 := hr5 5 _ rfl
          have m6 := hr5 6 _ rfl
          have m7 := hr5 7 _ rfl
          have m8 := hr5 8 _ rfl
          have m9 := hr5 9 _ rfl
          have m10 := hr5 10 _ rfl
          have m11 := hr5 11 _ rfl
          have m12 := hr5 12 _ rfl
          have m13 := hr5 13 _ rfl
          have m14 := hr5 14 _ rfl
          simp only [Nat.zero_add] at m0 m1 m2 m3 m4 m5 m6 m7 m8 m9 m10 m11 m12 m13 m14
          have hbx : w5.heap[wr.heap.size]? = some (.cells #[.string q.site, .int .i64 q.n, .string q.txn, .int .i64 q.stamp, .string q.home, .int .i64 q.seq] 72 (0, 0)) := (hb5.block _ (by omega)).trans (heap_alloc_new wr _)
          have d0 : w5.cell? ⟨wr.heap.size, 0, none⟩ = some (.string q.site) := by rw [cell_of_row _ _ _ _ _ _ hbx]; rfl
          have d1 : w5.cell? ⟨wr.heap.size, 1, none⟩ = some (.int .i64 q.n) := by rw [cell_of_row _ _ _ _ _ _ hbx]; rfl
          have d2 : w5.cell? ⟨wr.heap.size, 2, none⟩ = some (.string q.txn) := by rw [cell_of_row _ _ _ _ _ _ hbx]; rfl
          have d3 : w5.cell? ⟨wr.heap.size, 3, none⟩ = some (.int .i64 q.stamp) := by rw [cell_of_row _ _ _ _ _ _ hbx]; rfl
          have d4 : w5.cell? ⟨wr.heap.size, 4, none⟩ = some (.string q.home) := by rw [cell_of_row _ _ _ _ _ _ hbx]; rfl
          have d5 : w5.cell? ⟨wr.heap.size, 5, none⟩ = some (.int .i64 q.seq) := by rw [cell_of_row _ _ _ _ _ _ hbx]; rfl
          have hplt := lt_of_block HNR.out
          have hpx : w5.heap[pb]? = some (.cells (newCells q) 89 (0, 0)) := (hb5.block _ (by omega)).trans ((Below.heap_alloc _ _ _ hplt).trans HNR.out)
          have p0 : w5.cell? ⟨pb, 0, none⟩ = some (.string q.site) := by rw [cell_of_row _ _ _ _ _ _ hpx]; rfl
          have p1 : w5.cell? ⟨pb, 1, none⟩ = some (.int .i64 q.n) := by rw [cell_of_row _ _ _ _ _ _ hpx]; rfl
          have p2 : w5.cell? ⟨pb, 2, none⟩ = some (.string ⟨#[]⟩) := by rw [cell_of_row _ _ _ _ _ _ hpx]; rfl
          have p3 : w5.cell? ⟨pb, 3, none⟩ = some (.int .i64 0) := by rw [cell_of_row _ _ _ _ _ _ hpx]; rfl
          have p4 : w5.cell? ⟨pb, 4, none⟩ = some (.string ⟨#[]⟩) := by rw [cell_of_row _ _ _ _ _ _ hpx]; rfl
          have p5 : w5.cell? ⟨pb, 5, none⟩ = some (.int .i64 0) := by rw [cell_of_row _ _ _ _ _ _ hpx]; rfl
          have p6 : w5.cell? ⟨pb, 6, none⟩ = some (.string ⟨#[]⟩) := by rw [cell_of_row _ _ _ _ _ _ hpx]; rfl
          have p8 : w5.cell? ⟨pb, 8, none⟩ = some (.slice none 0 0) := by rw [cell_of_row _ _ _ _ _ _ hpx]; rfl
          have p12 : w5.cell? ⟨pb, 12, none⟩ = some (.slice none 0 0) := by rw [cell_of_row _ _ _ _ _ _ hpx]; rfl
          have hb6 : Below w4.heap.size w4 w5 := HBR.out.trans (((Below.refl _ _).alloc (Nat.le_refl _) _).trans (hb5.mono (by omega)) |>.mono HBR.out.size)
          have HB6 := hide hb6
          clear hr5 hb5 hbx hpx hb6 hrm c0 c1 c2 c3 c4 c5 cw2 HBR HNR
          go_wp2_with fail
          go_quiet (fail)
          go_wp2_with fail
          go_roundw
          case rel => exact ⟨j + 1, by omega, by go_num, below_drewN HB6.out _⟩
          case measure => simp [intOf]; omega
        · obtain rfl : j = qs.length := by omega
          go_wp2_with fail
          go_ret
          exact ⟨rfl, HB4.out.trans (hbr.mono HB4.out.size)⟩

set_option maxRecDepth 100000 in
set_option maxHeartbeats 400000 in
theorem walk_big (name : ByteArray) (ka : Option Addr) (len cap : Nat) (w : World) (hl : 1024 < len) :
    Calls Yba.prog 5 #[.string name, .slice ka len cap] w fun e w' => e = .returned (.bool true) ∧ Below w.heap.size w w' := by
  go_enter Yba.func5, Yba.ntmps5
  go_wp2_with fail
  go_ret
  exact ⟨rfl, Below.refl _ _⟩

end Go.Proofs.Ybulkmvg.Each
