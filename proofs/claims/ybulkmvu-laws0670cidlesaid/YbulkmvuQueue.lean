/-
  '(*eventQueue)': how it lies in memory.
-/
import Derived.Test.YbulkmvuHeap
import Derived.Deep.AppendLies
import Derived.Deep.RegionLaw
import Derived.Deep.MidRow
import Derived.Deep.CutRange
import Derived.Deep.DrawnRows
import Derived.BigRegion
namespace Go.Proofs.Ybulkmvu.Queue
open Go.RowKit Go.Proofs.Ybulkmvu.Ev Go.Proofs.Ybulkmvu.Heap

theorem info41 : (Yba.prog.info? 41).map (fun i => (i.zero, i.size, i.bytes)) = some (some (.agg #[.int .i64 0, .int .u8 0, .int .u32 0, .int .i64 0, .int .u64 0, .pointer none, .pointer none, .pointer none, .pointer none, .pointer none]), 10, 72) := by kernel_rfl

/-- The cells of the events, one behind the other. -/
def Row (xs : List Value) (L : List Ev) : Prop := ∀ i r v, i < L.length → (evCells (g L i))[r]? = some v → xs[i * 10 + r]? = some v

/-- The queue at block Q: its events L in a row of its own (R: the row's block), s pushed so far. -/
def QAt (B Q : Nat) (R : Option Nat) (w : World) (L : List Ev) (s : Int) : Prop :=
  ∃ ao cap xs, w.heap[Q]? = some (.cells #[.slice ao L.length cap, .int .u64 s] 27 (0, 0)) ∧ w.ownsRow B 41 10 (.slice ao L.length cap) L.length xs ∧ Row xs L ∧ (Value.slice ao L.length cap).ownBlock = R ∧ R ≠ some Q

/-- All blocks but the queue's own two are as they were. -/
structure Kq (Q : Nat) (R : Option Nat) (w w' : World) : Prop where
  os : w'.os = w.os
  tape : w'.tape = w.tape
  output : w'.output = w.output
  size : w.heap.size ≤ w'.heap.size
  block : ∀ k, k < w.heap.size → k ≠ Q → some k ≠ R → w'.heap[k]? = w.heap[k]?

theorem Kq.refl (Q : Nat) (R : Option Nat) (w : World) : Kq Q R w w := ⟨rfl, rfl, rfl, Nat.le_refl _, fun _ _ _ _ => rfl⟩
theorem Kq.trans {Q : Nat} {R R1 : Option Nat} {a b c : World} (h : Kq Q R a b) (k : Kq Q R1 b c) (hR : R1 = R ∨ ∃ q, R1 = some q ∧ a.heap.size ≤ q) : Kq Q R a c :=
  ⟨k.os.trans h.os, k.tape.trans h.tape, k.output.trans h.output, Nat.le_trans h.size k.size, fun i hi h1 h2 => (k.block i (Nat.lt_of_lt_of_le hi h.size) h1 (by
    rcases hR with rfl | ⟨q, rfl, hq⟩
    · exact h2
    · intro e; simp only [Option.some.injEq] at e; omega)).trans (h.block i hi h1 h2)⟩
theorem Kq.of_below {Q : Nat} {R : Option Nat} {a b : World} (h : Below a.heap.size a b) : Kq Q R a b := ⟨h.os, h.tape, h.output, h.size, fun k hk _ _ => h.block k hk⟩
theorem Kq.below {B Q : Nat} {R : Option Nat} {a b : World} (h : Kq Q R a b) (hB : B ≤ a.heap.size) (hQ : B ≤ Q) (hR : ∀ k, R = some k → B ≤ k) : Below B a b :=
  ⟨h.os, h.tape, h.output, h.size, fun k hk => h.block k (by omega) (by omega) (fun e => by have := hR k e.symm; omega)⟩

theorem QAt.of_below {B Q : Nat} {R : Option Nat} {a b : World} {L : List Ev} {s : Int} (h : QAt B Q R a L s) (k : Below a.heap.size a b) : QAt B Q R b L s := by
  obtain ⟨ao, cap, xs, h1, h2, h3, h4, h5⟩ := h
  exact ⟨ao, cap, xs, by rw [k.block Q (lt_of_block h1)]; exact h1, h2.kept (row := none) ⟨k.os, k.tape, k.output, k.size, fun q hq _ => k.block q hq⟩ (by cases hv : (Value.slice ao L.length cap).ownBlock <;> simp), h3, h4, h5⟩

theorem evAt {w : World} {B : Nat} {ao : Option Addr} {n cap : Nat} {xs : List Value} {L : List Ev} {q : Nat} (h : w.ownsRow B 41 10 (.slice ao n cap) n xs) (hr : Row xs L) (hq : ao = some ⟨q, 0, none⟩) (i : Nat) (hi : i < L.length) : w.rangeAt q (i * 10) (evCells (g L i)) := by
  intro r v hv
  subst hq
  have e := h.cells (g := q) rfl _ _ (hr i r v hi hv)
  rwa [Addr.add_lit, Nat.zero_add] at e

theorem at_of_range {w : World} {b o : Nat} {e : Ev} (h : w.rangeAt b o (evCells e)) : At w b o e := ⟨h 0 _ rfl, h 1 _ rfl, h 3 _ rfl, h 4 _ rfl⟩

theorem new10 (w : World) (o : Obj) (cs : Array Value) (t : TypeId) : ∀ j u, cs.toList[j]? = some u → (((w.alloc o).alloc (.cells cs t)).drew).cell? ((⟨w.heap.size + 1, 0, none⟩ : Addr).add j) = some u :=
  World.news_of_block (w := ((w.alloc o).alloc (.cells cs t)).drew) (B := w.heap.size + 1) (cs := cs) (t := t) (fr := (0, 0)) (heap_alloc2_new w o (.cells cs t))

theorem ev_one (e : Ev) : ∀ u ∈ evCells e, u.oneCell' = true := by
  intro u hu
  simp only [evCells, List.mem_cons, List.not_mem_nil, or_false] at hu
  rcases hu with rfl | rfl | rfl | rfl | rfl | rfl | rfl | rfl | rfl | rfl <;> rfl

theorem row_snoc {xs : List Value} {L : List Ev} {e : Ev} (hx : xs.length = L.length * 10) (h : Row xs L) : Row (xs ++ evCells e) (L ++ [e]) := by
  intro i r v hi hv
  by_cases hl : i < L.length
  · rw [g_append_left L _ i hl] at hv
    have hr : r < 10 := (List.getElem?_eq_some_iff.1 hv).1
    rw [List.getElem?_append_left (by omega)]
    exact h i r v hl hv
  · have hi' : i = L.length := by simp at hi; omega
    subst hi'
    have hg : g (L ++ [e]) L.length = e := by simp [g]
    rw [hg] at hv
    rw [List.getElem?_append_right (by omega), hx]
    simpa using hv

theorem push_step {B Q : Nat} {R : Option Nat} {w wx w2 : World} {L : List Ev} {e : Ev} {s : Int} {ao : Option Addr} {cap gb cap' : Nat} {xs : List Value}
    (hQ : w.heap[Q]? = some (.cells #[.slice ao L.length cap, .int .u64 s] 27 (0, 0))) (hown : w.ownsRow B 41 10 (.slice ao L.length cap) L.length xs) (hrow : Row xs L) (hR : (Value.slice ao L.length cap).ownBlock = R) (hRQ : R ≠ some Q)
    (hb : Below w.heap.size w wx) (hown2 : w2.ownsRow B 41 10 (.slice (some ⟨gb, 0, none⟩) (L.length + 1) cap') (L.length + 1) (xs ++ evCells e)) (hgr : wx.grownBy w2 (Value.slice ao L.length cap).ownBlock)
    (hat : (Value.slice ao L.length cap).ownBlock = some gb ∨ gb = wx.heap.size) :
    w2.heap[Q]? = some (.cells #[.slice ao L.length cap, .int .u64 s] 27 (0, 0)) ∧
    QAt B Q (some gb) (w2.setCell ⟨Q, 0, none⟩ (.slice (some ⟨gb, 0, none⟩) (L.length + 1) cap')) (L ++ [e]) s ∧
    Kq Q R w (w2.setCell ⟨Q, 0, none⟩ (.slice (some ⟨gb, 0, none⟩) (L.length + 1) cap')) ∧ (some gb = R ∨ ∃ q, some gb = some q ∧ w.heap.size ≤ q) := by
  have hQlt := lt_of_block hQ
  have hbs := hb.size
  subst hR
  have e2 : w2.heap[Q]? = some (.cells #[.slice ao L.length cap, .int .u64 s] 27 (0, 0)) := by
    rw [hgr.block Q (by omega) (fun e => hRQ e.symm), hb.block Q hQlt]
    exact hQ
  have hgq : gb ≠ Q := by
    rcases hat with h | h
    · intro e; subst e; exact hRQ h
    · omega
  refine ⟨e2, ⟨some ⟨gb, 0, none⟩, cap', xs ++ evCells e, ?_, ?_, row_snoc hown.1 hrow, rfl, by simpa using hgq⟩, ?_, ?_⟩
  · rw [heap_setCell_same _ _ _ _ _ _ e2]; simp
  · have := ownsRow_setCell_other hown2 (a := ⟨Q, 0, none⟩) (by simpa [Value.ownBlock] using hgq) (.slice (some ⟨gb, 0, none⟩) (L.length + 1) cap')
    simpa using this
  · refine ⟨hgr.os.trans hb.os, hgr.tape.trans hb.tape, hgr.output.trans hb.output, by simp [World.setCell]; have := hgr.size; omega, fun k hk h1 h2 => ?_⟩
    rw [heap_setCell_other _ _ _ _ (by simpa using h1), hgr.block k (by omega) h2, hb.block k hk]
  · rcases hat with h | h
    · exact .inl h.symm
    · exact .inr ⟨gb, rfl, by omega⟩

/-- Several cells of a list set, one behind the other. -/
def setMany : List Value → Nat → List Value → List Value
  | xs, _, [] => xs
  | xs, o, v :: r => setMany (xs.set o v) (o + 1) r

theorem setMany_get : ∀ (vs xs : List Value) (o p : Nat), o + vs.length ≤ xs.length → (setMany xs o vs)[p]? = if o ≤ p ∧ p < o + vs.length then vs[p - o]? else xs[p]?
  | [], xs, o, p, _ => by
    rw [setMany, if_neg (by simp)]
  | v :: r, xs, o, p, h => by
    simp only [List.length_cons] at h
    rw [setMany, setMany_get r (xs.set o v) (o + 1) p (by simp; omega)]
    by_cases h1 : o + 1 ≤ p ∧ p < o + 1 + r.length
    · rw [if_pos h1, if_pos (by simp; omega)]
      have e : p - o = (p - (o + 1)) + 1 := by omega
      rw [e, List.getElem?_cons_succ]
    · rw [if_neg h1]
      by_cases h2 : p = o
      · subst h2
        rw [if_pos (by simp), List.getElem?_set_self (by omega), Nat.sub_self]
        rfl
      · rw [if_neg (by simp; omega), List.getElem?_set_ne (by omega)]

theorem setMany_length : ∀ (vs xs : List Value) (o : Nat), (setMany xs o vs).length = xs.length
  | [], _, _ => rfl
  | v :: r, xs, o => by rw [setMany, setMany_length r]; simp

theorem ownsRow_setCells {B e size q n cap : Nat} : ∀ (vs : List Value) (w : World) (o : Nat) (xs : List Value), w.ownsRow B e size (.slice (some ⟨q, 0, none⟩) n cap) n xs → (w.setCells q o vs).ownsRow B e size (.slice (some ⟨q, 0, none⟩) n cap) n (setMany xs o vs)
  | [], _, _, _, h => h
  | v :: r, w, o, xs, h => ownsRow_setCells r (w.setCell ⟨q, o, none⟩ v) (o + 1) (xs.set o v) (h.stored o v).1

theorem setCells_other : ∀ (vs : List Value) (w : World) (b o k : Nat), k ≠ b → (w.setCells b o vs).heap[k]? = w.heap[k]?
  | [], _, _, _, _, _ => rfl
  | v :: r, w, b, o, k, h => by
    rw [World.setCells, setCells_other r _ b (o + 1) k h, heap_setCell_other _ _ _ _ (by simpa using h)]

theorem setCells_frame : ∀ (vs : List Value) (w : World) (b o : Nat), (w.setCells b o vs).os = w.os ∧ (w.setCells b o vs).tape = w.tape ∧ (w.setCells b o vs).output = w.output ∧ (w.setCells b o vs).heap.size = w.heap.size
  | [], _, _, _ => ⟨rfl, rfl, rfl, rfl⟩
  | v :: r, w, b, o => by
    obtain ⟨h1, h2, h3, h4⟩ := setCells_frame r (w.setCell ⟨b, o, none⟩ v) b (o + 1)
    rw [World.setCells]
    exact ⟨h1, h2, h3, by rw [h4]; simp [World.setCell]⟩

/-- One event stored. -/
theorem put_world {B Q : Nat} {R : Option Nat} {w : World} {L : List Ev} {s : Int} (h : QAt B Q R w L s) {q : Nat} (hR : R = some q) (i : Nat) (hi : i < L.length) (e : Ev) :
    QAt B Q R (w.setCells q (i * 10) (evCells e)) (L.set i e) s ∧ Kq Q R w (w.setCells q (i * 10) (evCells e)) := by
  obtain ⟨ao, cap, xs, hQ, hown, hrow, hO, hRQ⟩ := h
  subst hR
  have hao : ao = some ⟨q, 0, none⟩ := by
    obtain ⟨q', cg, hv, _, _⟩ := hown.form (by omega)
    simp only [Value.slice.injEq] at hv
    rw [hv.1] at hO
    simp only [Value.ownBlock, Option.some.injEq] at hO
    rw [hv.1, hO]
  subst hao
  have hx : xs.length = L.length * 10 := hown.1
  have hfr := setCells_frame (evCells e) w q (i * 10)
  have hlen : (L.set i e).length = L.length := by simp
  have hqQ : Q ≠ q := fun e => hRQ (by rw [e])
  refine ⟨⟨some ⟨q, 0, none⟩, cap, setMany xs (i * 10) (evCells e), ?_, ?_, ?_, rfl, hRQ⟩, ⟨hfr.1, hfr.2.1, hfr.2.2.1, by rw [hfr.2.2.2]; exact Nat.le_refl _, fun k _ _ h2 => setCells_other _ _ _ _ _ (fun e => h2 (by rw [e]))⟩⟩
  · rw [setCells_other _ _ _ _ _ hqQ, hlen]; exact hQ
  · rw [hlen]; exact ownsRow_setCells _ _ _ _ hown
  · intro k r v hk hv
    rw [hlen] at hk
    have hr : r < 10 := (List.getElem?_eq_some_iff.1 hv).1
    rw [setMany_get _ _ _ _ (by rw [evLen]; omega), evLen]
    rw [g_set _ _ _ _ hi] at hv
    by_cases hki : k = i
    · subst hki
      rw [if_pos rfl] at hv
      rw [if_pos (by omega)]
      have e : k * 10 + r - k * 10 = r := by omega
      rw [e]
      exact hv
    · rw [if_neg hki] at hv
      rw [if_neg (by omega)]
      exact hrow k r v hk hv

theorem swap_world {B Q : Nat} {R : Option Nat} {w : World} {L : List Ev} {s : Int} (h : QAt B Q R w L s) {q : Nat} (hR : R = some q) (i j : Nat) (hi : i < L.length) (hj : j < L.length) :
    QAt B Q R ((w.setCells q (i * 10) (evCells (g L j))).setCells q (j * 10) (evCells (g L i))) (swap L i j) s ∧ Kq Q R w ((w.setCells q (i * 10) (evCells (g L j))).setCells q (j * 10) (evCells (g L i))) := by
  obtain ⟨h1, k1⟩ := put_world h hR i hi (g L j)
  obtain ⟨h2, k2⟩ := put_world h1 hR j (by simpa using hj) (g L i)
  exact ⟨h2, k1.trans k2 (.inl rfl)⟩

end Go.Proofs.Ybulkmvu.Queue
