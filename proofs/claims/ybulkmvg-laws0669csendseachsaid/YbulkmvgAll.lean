/-
  '(*node).retryAll': a message for each probe, in their order.
-/
import Derived.Test.YbulkmvgRetry
import Derived.Deep.MidRow
namespace Go.Proofs.Ybulkmvg.All
open Go.RowKit Go.Proofs.Ybulkmvg.Net Go.Proofs.Ybulkmvg.Send Go.Proofs.Ybulkmvg.Retry

/-- The plain data of one probe. -/
structure Pr where
  site : ByteArray
  n : Int
  txn : ByteArray
  stamp : Int
  home : ByteArray
  seq : Int

def prCells (q : Pr) : List Value := [.string q.site, .int .i64 q.n, .string q.txn, .int .i64 q.stamp, .string q.home, .int .i64 q.seq, .string q.site, .int .i64 0, .slice none 0 0, .pointer none, .string ⟨#[]⟩, .int .i64 0, .slice none 0 0, .slice none 0 0, .string ⟨#[]⟩, .int .i64 0, .string ⟨#[]⟩, .int .i64 0, .int .i64 0, .slice none 0 0, .string ⟨#[]⟩, .slice none 0 0, .int .i64 0, .int .i64 0, .int .i64 0, .string ⟨#[]⟩, .int .i64 0, .int .i64 0]
def newCells (q : Pr) : Array Value := #[.string q.site, .int .i64 q.n, .string ⟨#[]⟩, .int .i64 0, .string ⟨#[]⟩, .int .i64 0, .string ⟨#[]⟩, .int .i64 0, .slice none 0 0, .pointer none, .string ⟨#[]⟩, .int .i64 0, .slice none 0 0, .slice none 0 0, .string ⟨#[]⟩, .int .i64 0, .string ⟨#[]⟩, .int .i64 0, .int .i64 0, .slice none 0 0, .string ⟨#[]⟩, .slice none 0 0, .int .i64 0, .int .i64 0, .int .i64 0, .string ⟨#[]⟩, .int .i64 0, .int .i64 0]
def msgCells (name : ByteArray) (q : Pr) (pb : Nat) : List Value := [.int .i64 12, .string name, .string q.home, .string ⟨#[]⟩, .string q.txn, .int .i64 q.stamp, .string ⟨#[]⟩, .int .i64 q.seq, .bool false, .bool false, .bool false, .bool false, .bool false, .pointer (some ⟨pb, 0, none⟩), .pointer none]
def logCells (name : ByteArray) (l : List (Pr × Nat)) : List Value := l.flatMap fun x => msgCells name x.1 x.2

theorem logCells_snoc (name : ByteArray) (l : List (Pr × Nat)) (q : Pr) (pb : Nat) : logCells name (l ++ [(q, pb)]) = logCells name l ++ msgCells name q pb := by simp [logCells]

theorem cells28 {w : World} {b o : Nat} {q : Pr} (h : w.rangeAt b o (prCells q)) :
    w.cell? ⟨b, o, none⟩ = some (.string q.site) ∧
    w.cell? ⟨b, o + 1, none⟩ = some (.int .i64 q.n) ∧
    w.cell? ⟨b, o + 2, none⟩ = some (.string q.txn) ∧
    w.cell? ⟨b, o + 3, none⟩ = some (.int .i64 q.stamp) ∧
    w.cell? ⟨b, o + 4, none⟩ = some (.string q.home) ∧
    w.cell? ⟨b, o + 5, none⟩ = some (.int .i64 q.seq) ∧
    w.cell? ⟨b, o + 6, none⟩ = some (.string q.site) ∧
    w.cell? ⟨b, o + 7, none⟩ = some (.int .i64 0) ∧
    w.cell? ⟨b, o + 8, none⟩ = some (.slice none 0 0) ∧
    w.cell? ⟨b, o + 9, none⟩ = some (.pointer none) ∧
    w.cell? ⟨b, o + 10, none⟩ = some (.string ⟨#[]⟩) ∧
    w.cell? ⟨b, o + 11, none⟩ = some (.int .i64 0) ∧
    w.cell? ⟨b, o + 12, none⟩ = some (.slice none 0 0) ∧
    w.cell? ⟨b, o + 13, none⟩ = some (.slice none 0 0) ∧
    w.cell? ⟨b, o + 14, none⟩ = some (.string ⟨#[]⟩) ∧
    w.cell? ⟨b, o + 15, none⟩ = some (.int .i64 0) ∧
    w.cell? ⟨b, o + 16, none⟩ = some (.string ⟨#[]⟩) ∧
    w.cell? ⟨b, o + 17, none⟩ = some (.int .i64 0) ∧
    w.cell? ⟨b, o + 18, none⟩ = some (.int .i64 0) ∧
    w.cell? ⟨b, o + 19, none⟩ = some (.slice none 0 0) ∧
    w.cell? ⟨b, o + 20, none⟩ = some (.string ⟨#[]⟩) ∧
    w.cell? ⟨b, o + 21, none⟩ = some (.slice none 0 0) ∧
    w.cell? ⟨b, o + 22, none⟩ = some (.int .i64 0) ∧
    w.cell? ⟨b, o + 23, none⟩ = some (.int .i64 0) ∧
    w.cell? ⟨b, o + 24, none⟩ = some (.int .i64 0) ∧
    w.cell? ⟨b, o + 25, none⟩ = some (.string ⟨#[]⟩) ∧
    w.cell? ⟨b, o + 26, none⟩ = some (.int .i64 0) ∧
    w.cell? ⟨b, o + 27, none⟩ = some (.int .i64 0) :=
  ⟨h 0 _ rfl, h 1 _ rfl, h 2 _ rfl, h 3 _ rfl, h 4 _ rfl, h 5 _ rfl, h 6 _ rfl, h 7 _ rfl, h 8 _ rfl, h 9 _ rfl, h 10 _ rfl, h 11 _ rfl, h 12 _ rfl, h 13 _ rfl, h 14 _ rfl, h 15 _ rfl, h 16 _ rfl, h 17 _ rfl, h 18 _ rfl, h 19 _ rfl, h 20 _ rfl, h 21 _ rfl, h 22 _ rfl, h 23 _ rfl, h 24 _ rfl, h 25 _ rfl, h 26 _ rfl, h 27 _ rfl⟩

/-- The probes lie in block PA. -/
def ProbesAt (w : World) (PA : Nat) (qs : List Pr) : Prop := (∃ cs, w.heap[PA]? = some (.cells cs 89 (0, 0))) ∧ ∀ i q, qs[i]? = some q → w.rangeAt PA (i * 28) (prCells q)

theorem ProbesAt.of_block {w w' : World} {PA : Nat} {qs : List Pr} (h : ProbesAt w PA qs) (hb : w'.heap[PA]? = w.heap[PA]?) : ProbesAt w' PA qs :=
  ⟨by obtain ⟨cs, hc⟩ := h.1; exact ⟨cs, by rw [hb]; exact hc⟩, fun i q hq j v hv => by rw [World.cell?_of_block (w := w) hb]; exact h.2 i q hq j v hv⟩

theorem ProbesAt.kept {w w' : World} {PA B W : Nat} {qs : List Pr} (h : ProbesAt w PA qs) (hW : PA ≠ W) (k : Kept B W w w') : ProbesAt w' PA qs := by
  obtain ⟨cs, hc⟩ := h.1
  exact h.of_block ((k.2 PA cs 89 (by decide) hW hc).trans hc.symm)

theorem ProbesAt.below {w w' : World} {PA : Nat} {qs : List Pr} (h : ProbesAt w PA qs) (k : Below w.heap.size w w') : ProbesAt w' PA qs := by
  obtain ⟨cs, hc⟩ := h.1
  exact h.of_block (k.block PA (lt_of_block hc))

/-- What the log holds behind the probes of l. -/
def Sent (B W : Nat) (name : ByteArray) (l : List (Pr × Nat)) (wr : World) : Prop :=
  Log B W wr l.length (logCells name l) ∧ ∀ x ∈ l, x.2 ≠ W ∧ wr.heap[x.2]? = some (.cells (newCells x.1) 89 (0, 0))

theorem Sent.below {B W : Nat} {name : ByteArray} {l : List (Pr × Nat)} {w w' : World} (h : Sent B W name l w) (k : Below w.heap.size w w') : Sent B W name l w' :=
  ⟨h.1.of_below k, fun x hx => ⟨(h.2 x hx).1, by rw [k.block _ (lt_of_block (h.2 x hx).2)]; exact (h.2 x hx).2⟩⟩

theorem Sent.step {B W : Nat} {name : ByteArray} {l : List (Pr × Nat)} {w w' : World} {q : Pr} {pb : Nat} (h : Sent B W name l w) (k : Kept B W w w') (hlog : Log B W w' (l.length + 1) (logCells name l ++ msgCells name q pb)) (hpb : pb ≠ W) (hn : w'.heap[pb]? = some (.cells (newCells q) 89 (0, 0))) :
    Sent B W name (l ++ [(q, pb)]) w' := by
  refine ⟨by rw [logCells_snoc, List.length_append]; exact hlog, fun x hx => ?_⟩
  rcases List.mem_append.1 hx with hx | hx
  · exact ⟨(h.2 x hx).1, k.2 _ _ 89 (by decide) (h.2 x hx).1 (h.2 x hx).2⟩
  · simp only [List.mem_singleton] at hx
    subst hx
    exact ⟨hpb, hn⟩

theorem Sent.set70 {B W : Nat} {name : ByteArray} {l : List (Pr × Nat)} {w : World} (h : Sent B W name l w) {PV : Nat} {c : Array Value} (hVW : PV ≠ W) (hv : w.heap[PV]? = some (.cells c 70 (0, 0))) (u : Value) : Sent B W name l (w.setCell ⟨PV, 0, none⟩ u) := by
  obtain ⟨⟨ao, cap, hW, hown⟩, hp⟩ := h
  refine ⟨⟨ao, cap, ?_, ?_⟩, fun x hx => ⟨(hp x hx).1, ?_⟩⟩
  · rw [heap_setCell_other _ _ _ _ (by simpa using fun e => hVW e.symm)]; exact hW
  · refine ownsRow_setCell_other hown ?_ _
    intro e
    rcases hown.2 with ⟨hx, _⟩ | ⟨q, cap1, cur, hx, _, hq, _⟩
    · rw [hx] at e; simp [Value.ownBlock] at e
    · rw [hx] at e
      simp only [Value.ownBlock, Option.some.injEq] at e
      subst e
      rw [hv] at hq
      simp at hq
  · have h2 := (hp x hx).2
    rw [heap_setCell_other _ _ _ _ ?_]
    · exact h2
    · intro e
      simp only at e
      rw [e, hv] at h2
      simp at h2

theorem prLen (q : Pr) : (prCells q).length = 28 := rfl
theorem hi89 : (Yba.prog.info? 89).map (·.size) = some 28 := by kernel_rfl
theorem prOne (q : Pr) : (prCells q).toArray.all (·.oneCell') = true := by
  simp only [prCells, List.all_toArray, List.all_cons, List.all_nil]
  rfl
theorem thereNew (w : World) (c : Array Value) (t : TypeId) (n : Nat) (h : n ≤ c.size) : (w.alloc (.cells c t)).there w.heap.size 0 n := fun j hj => by
  have hb : (w.alloc (.cells c t)).heap[w.heap.size]? = some (.cells c t (0, 0)) := heap_alloc_new w _
  rw [Nat.zero_add]
  exact ⟨by rw [cell_of_row _ _ _ _ _ _ hb, Array.getElem?_eq_getElem (by omega)]; rfl, frozen_of_row _ _ _ _ _ hb⟩
theorem belowSet {B : Nat} {a : World} : ∀ (vs : List Value) (w : World) (b o : Nat), Below B a w → B ≤ b → Below B a (w.setCells b o vs)
  | [], _, _, _, h, _ => h
  | v :: r, w, b, o, h, hb => belowSet r (w.setCell ⟨b, o, none⟩ v) b (o + 1) (h.setCell (p := ⟨b, o, none⟩) hb v) hb

/-- A row stored into a block that was just made: behind it the world is a letter. -/
theorem wpList_store_new {P : Program} {ops : Array Oper} {rest : List Oper} {op : Oper} {a : Act} {w : World} {Q : Exit → Act → World → Prop} (hgd : op.guard = none) (ty : TypeId) (x y : Operand) (ho : op.op = .store ty x y)
    (c : Array Value) (t : TypeId) (cells : List Value) (hx : a.eval x = .pointer (some ⟨w.heap.size, 0, none⟩)) (hy : a.eval y = .agg cells.toArray)
    (hc : cells.length ≤ c.size) (hi : (P.info? ty).map (·.size) = some cells.length) (h1 : cells.toArray.all (·.oneCell') = true)
    (h : ∀ w', w'.rangeAt w.heap.size 0 cells → Below w.heap.size w w' → wpList P ops Q rest (a.put op.dst undef) w') : wpList P ops Q (op :: rest) a (w.alloc (.cells c t)) := by
  have ht : (w.alloc (.cells c t)).there w.heap.size 0 cells.toArray.size := thereNew w c t _ (by simpa using hc)
  refine wpList_store_mid hgd ty x y ho w.heap.size 0 cells.toArray hx hy ht (by simpa using hi) h1 ?_
  refine h _ ?_ (belowSet _ _ _ _ ((Below.refl _ _).alloc (Nat.le_refl _) _) (Nat.le_refl _))
  exact World.rangeAt_setCells_same _ _ _ _ (by simpa using ht)

set_option maxRecDepth 100000 in
set_option maxHeartbeats 1000000 in
theorem retryAll_any (B W N PV PA : Nat) (qs : List Pr) (w : World) (name : ByteArray) (hsent : Sent B W name [] w) (hlen : qs.length ≤ 1024) (hBW : B ≤ W) (hBV : B ≤ PV) (hVW : PV ≠ W) (hNW : N ≠ W) (hAW : PA ≠ W) (hn : NodeAt w N W name) (hpv : w.heap[PV]? = some (.cells #[.slice (some ⟨PA, 0, none⟩) qs.length qs.length] 70 (0, 0))) (hpr : ProbesAt w PA qs) :
    Calls Yba.prog 8 #[.pointer (some ⟨N, 0, none⟩), .pointer (some ⟨PV, 0, none⟩)] w fun e w' =>
      e = .returned (.tuple #[]) ∧ ∃ l, l.map (·.1) = qs ∧ Sent B W name l w' ∧ w'.heap[PV]? = some (.cells #[.slice none 0 0] 70 (0, 0)) ∧ Below B w w' := by
  have c0 : w.cell? ⟨PV, 0, none⟩ = some (.slice (some ⟨PA, 0, none⟩) qs.length qs.length) := by rw [cell_of_row _ _ _ _ _ _ hpv]; rfl
  have HS := hide hsent
  have HN := hide hn
  have HV := hide hpv
  have HP := hide hpr
  have HBw : Hid (B ≤ w.heap.size) := by have := lt_of_block hpv; exact Nat.le_of_lt (Nat.lt_of_le_of_lt hBV this)
  have hWw : W < w.heap.size := by obtain ⟨⟨_, _, h, _⟩, _⟩ := hsent; exact lt_of_block h
  have HWw := hide hWw
  clear hsent hn hpv hpr hWw
  go_enter Yba.func8, Yba.ntmps8
  go_wp2_with fail
  go_loopw [10] (fun i wr => ∃ (j : Nat) (l : List (Pr × Nat)), j ≤ qs.length ∧ i = .int .i64 j ∧ l.map (·.1) = qs.take j ∧ Sent B W name l wr ∧ Kept B W w wr) (fun i _ => qs.length - (intOf i).toNat)
  case atStart => exact ⟨0, [], Nat.zero_le _, rfl, rfl, HS.out, Kept.refl _ _ _⟩
  case round =>
    obtain ⟨j, l, hj, rfl, hl, hs, hk⟩ := hrel
    have HL := hide hl
    have HSR := hide hs
    have HKR := hide hk
    clear hl hs hk c0
    by_cases hlt : j < qs.length
    · obtain ⟨q, hq⟩ : ∃ q, qs[j]? = some q := ⟨_, List.getElem?_eq_getElem hlt⟩
      have hr := (HP.out.kept hAW HKR.out).2 j q hq
      have HQ := hide hq
      clear hq
      go_wp2_with (first
        | (refine wpList_load_mid rfl 89 (.tmp 12) rfl PA (j * 28) rfl (prCells q) _ hr Yba.underlying89 rfl hi89 ?_)
        | (refine wpList_store_new rfl 89 (.tmp 5) (.tmp 13) rfl _ _ (prCells q) rfl rfl (by rw [prLen]; simp) hi89 (prOne q) ?_; intro w1 hr1 hb1)
        | (refine wpList_load_mid rfl 89 (.tmp 5) rfl wr.heap.size 0 rfl (prCells q) _ hr1 Yba.underlying89 rfl hi89 ?_)
        | fail)
      have hk1 : Kept B W wr w1 := Kept.of_below (Nat.le_trans HBw.out HKR.out.1.size) hb1
      have hjl : l.length = j := by have := congrArg List.length HL.out; simp at this; omega
      refine (retryFrom_any B W N l.length (logCells name l) w1 name q.site q.txn q.home q.site q.n q.stamp q.seq (HSR.out.below hb1).1 (by omega) hBW ((HN.out.kept hNW HKR.out).below hb1)).mono ?_
      rintro e w2 ⟨rfl, pb, hpb, hlog2, hnew, hk2⟩
      have hs2 := (HSR.out.below hb1).step hk2 hlog2 (by have := HWw.out; have := HKR.out.1.size; have := hb1.size; omega) hnew
      have hk3 := (HKR.out.trans hk1).trans hk2
      have hl3 : (l ++ [(q, pb)]).map (·.1) = qs.take (j + 1) := by
        rw [List.map_append, HL.out, List.take_succ_eq_append_getElem hlt]
        have := HQ.out
        rw [List.getElem?_eq_getElem hlt] at this
        simp only [Option.some.injEq] at this
        simp [this]
      have HH := hide (And.intro hl3 (And.intro hs2 hk3))
      clear hl3 hs2 hk3 hk1 hk2 hlog2 hnew hr hr1 hb1 hjl HQ HL HSR HKR
      go_wp2_with fail
      go_roundw
      case rel => exact ⟨j + 1, _, by omega, by go_num, HH.out.1, HH.out.2.1, HH.out.2.2⟩
      case measure => simp [intOf]; omega
    · obtain rfl : j = qs.length := by omega
      have hv := HKR.out.2 _ _ 70 (by decide) hVW HV.out
      have c0 : wr.cell? ⟨PV, 0, none⟩ = some (.slice (some ⟨PA, 0, none⟩) qs.length qs.length) := by rw [cell_of_row _ _ _ _ _ _ hv]; rfl
      have f0 : wr.frozen? ⟨PV, 0, none⟩ = false := frozen_of_row _ _ _ _ _ hv
      have HV2 := hide hv
      clear hv
      go_wp2_with fail
      go_end0
      refine ⟨rfl, l, by rw [HL.out]; simp, ?_, ?_, ?_⟩
      · exact HSR.out.set70 hVW HV2.out _
      · rw [heap_setCell_same _ _ _ _ _ _ HV2.out]; simp
      · exact HKR.out.1.setCell (p := ⟨PV, 0, none⟩) hBV _

end Go.Proofs.Ybulkmvg.All
