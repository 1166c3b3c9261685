/-
  Rows of memory by tags: each growing slice of the parser and of the law's model has a tag; a block bears at most one tag, so rows of different tags never share a block.
-/
import Derived.Test.YbulkmvuFmtHeader
import Derived.Maps.AppendAt
import Derived.Deep.RegionLaw
namespace Go.Proofs.YbulkmvuFmt
open Go.RowKit Go.Extern.Stop Go.Stop Go.Extern

/-- A row's elements' type and size, by its tag's head. -/
def E : List Nat → TypeId
  | 0 :: _ => 56
  | 1 :: _ => 59
  | 2 :: _ => 49
  | 3 :: _ => 53
  | 4 :: _ => 41
  | 5 :: _ => 27
  | 6 :: _ => 3
  | 7 :: _ => 9
  | 8 :: _ => 44
  | 10 :: _ => 44
  | _ => 3
def S : List Nat → Nat
  | 0 :: _ => 2
  | 3 :: _ => 3
  | 8 :: _ => 2
  | 10 :: _ => 2
  | _ => 1

def upd {α : Type} (f : List Nat → α) (t : List Nat) (a : α) : List Nat → α := fun s => if s = t then a else f s
theorem upd_same {α : Type} (f : List Nat → α) (t : List Nat) (a : α) : upd f t a t = a := if_pos rfl
theorem upd_other {α : Type} (f : List Nat → α) {t s : List Nat} (a : α) (h : s ≠ t) : upd f t a s = f s := if_neg h

/-- All rows: each lies where its value says, in a block of its own tag, from lo on. -/
def Rws (w : World) (own : Nat → List Nat) (lo : Nat) (V : List Nat → Value) (C : List Nat → Nat) (X : List Nat → List Value) : Prop :=
  ∀ t, w.ownsRow lo (E t) (S t) (V t) (C t) (X t) ∧ ∀ g, (V t).ownBlock = some g → own g = t

theorem Rws.keep {w w' : World} {own : Nat → List Nat} {lo : Nat} {V : List Nat → Value} {C : List Nat → Nat} {X : List Nat → List Value} (h : Rws w own lo V C X) (hk : ∀ q, lo ≤ q → q < w.heap.size → w'.heap[q]? = w.heap[q]?) : Rws w' own lo V C X := by
  intro t
  refine ⟨⟨(h t).1.1, ?_⟩, (h t).2⟩
  rcases (h t).1.2 with h0 | ⟨g, cap, cur, h1, h2, h3, h4⟩
  · exact Or.inl h0
  · exact Or.inr ⟨g, cap, cur, h1, h2, (hk g h2 (lt_of_block h3)).trans h3, h4⟩

theorem Rws.below {w w' : World} {own : Nat → List Nat} {lo : Nat} {V : List Nat → Value} {C : List Nat → Nat} {X : List Nat → List Value} (h : Rws w own lo V C X) (hb : Below w.heap.size w w') : Rws w' own lo V C X :=
  h.keep fun q _ hq => hb.block q hq

/-- A row that is not empty. -/
theorem Rws.at {w : World} {own : Nat → List Nat} {lo : Nat} {V : List Nat → Value} {C : List Nat → Nat} {X : List Nat → List Value} (h : Rws w own lo V C X) (t : List Nat) (hc : 0 < C t) :
    ∃ g cap, V t = .slice (some ⟨g, 0, none⟩) (C t) cap ∧ lo ≤ g ∧ g < w.heap.size ∧ C t ≤ cap ∧ own g = t ∧ (∀ j u, (X t)[j]? = some u → w.cell? ⟨g, j, none⟩ = some u) ∧ (∀ j, w.frozen? ⟨g, j, none⟩ = false) := by
  rcases (h t).1.2 with ⟨_, h0⟩ | ⟨g, cap, cur, h1, h2, h3, h4, h5, h6, h7⟩
  · omega
  · refine ⟨g, cap, h1, h2, lt_of_block h3, h4, (h t).2 g (by rw [h1]; rfl), fun j u hj => ?_, fun j => frozen_of_row _ _ _ _ _ h3⟩
    rw [cell_of_row _ _ _ _ _ _ h3]
    rw [← h7, List.getElem?_take] at hj
    split at hj
    · simpa using hj
    · simp at hj

/-- The value of a row is a slice. -/
theorem Rws.val {w : World} {own : Nat → List Nat} {lo : Nat} {V : List Nat → Value} {C : List Nat → Nat} {X : List Nat → List Value} (h : Rws w own lo V C X) (t : List Nat) : ∃ a cap, V t = .slice a (C t) cap := by
  rcases (h t).1.2 with ⟨h0, h1⟩ | ⟨g, cap, cur, h1, _⟩
  · exact ⟨none, 0, by rw [h0, h1]⟩
  · exact ⟨_, _, h1⟩

theorem Rws.len {w : World} {own : Nat → List Nat} {lo : Nat} {V : List Nat → Value} {C : List Nat → Nat} {X : List Nat → List Value} (h : Rws w own lo V C X) (t : List Nat) : (X t).length = C t * S t := (h t).1.1

/-- One cell of a row is written. -/
theorem Rws.set {w : World} {own : Nat → List Nat} {lo : Nat} {V : List Nat → Value} {C : List Nat → Nat} {X : List Nat → List Value} (h : Rws w own lo V C X) (t : List Nat) (g cap n j : Nat) (u : Value) (hv : V t = .slice (some ⟨g, 0, none⟩) n cap) :
    Rws (w.setCell ⟨g, j, none⟩ u) own lo V C (upd X t ((X t).set j u)) := by
  have hg : own g = t := (h t).2 g (by rw [hv]; rfl)
  intro s
  by_cases hs : s = t
  · subst hs
    rw [upd_same]
    refine ⟨⟨by rw [List.length_set]; exact (h s).1.1, ?_⟩, (h s).2⟩
    rcases (h s).1.2 with ⟨h0, _⟩ | ⟨g', cap', cur, h1, h2, h3, h4, h5, h6, h7⟩
    · rw [hv] at h0; simp at h0
    · have e : g' = g := by rw [hv] at h1; simp at h1; exact h1.1.symm
      subst e
      refine Or.inr ⟨g', cap', _, h1, h2, heap_setCell_same w g' j cur _ u h3, h4, h5, by simpa using h6, ?_⟩
      rw [Array.toList_setIfInBounds, List.take_set, h7]
  · rw [upd_other _ _ hs]
    refine ⟨⟨(h s).1.1, ?_⟩, (h s).2⟩
    rcases (h s).1.2 with h0 | ⟨g', cap', cur, h1, h2, h3, h4⟩
    · exact Or.inl h0
    · have hne : g' ≠ g := fun e => hs (by rw [← (h s).2 g' (by rw [h1]; rfl), e, hg])
      exact Or.inr ⟨g', cap', cur, h1, h2, (heap_setCell_other _ _ _ _ (by simpa using hne)).trans h3, h4⟩

/-- A row has grown. -/
theorem Rws.grow {w w' : World} {own : Nat → List Nat} {lo : Nat} {V : List Nat → Value} {C : List Nat → Nat} {X : List Nat → List Value} (h : Rws w own lo V C X) (t : List Nat) {v' : Value} {m : Nat} {news : List Value} (h1 : w'.ownsRow lo (E t) (S t) v' (C t + m) (X t ++ news))
    (h2 : w.grownBy w' (V t).ownBlock) (h3 : v'.ownBlock = (V t).ownBlock ∨ v'.ownBlock = some w.heap.size) :
    ∃ own', Rws w' own' lo (upd V t v') (upd C t (C t + m)) (upd X t (X t ++ news)) := by
  refine ⟨fun b => if w.heap.size ≤ b then t else own b, fun s => ?_⟩
  by_cases hs : s = t
  · subst hs
    rw [upd_same, upd_same, upd_same]
    refine ⟨h1, fun g hg => ?_⟩
    by_cases hle : w.heap.size ≤ g
    · exact if_pos hle
    · show (if w.heap.size ≤ g then s else own g) = s
      rw [if_neg hle]
      rcases h3 with h3 | h3
      · exact (h s).2 g (by rw [← h3, hg])
      · rw [hg] at h3; simp at h3; omega
  · rw [upd_other _ _ hs, upd_other _ _ hs, upd_other _ _ hs]
    refine ⟨⟨(h s).1.1, ?_⟩, fun g hg => ?_⟩
    · rcases (h s).1.2 with h0 | ⟨g', cap', cur, e1, e2, e3, e4⟩
      · exact Or.inl h0
      · have hne : some g' ≠ (V t).ownBlock := fun e => hs (by rw [← (h s).2 g' (by rw [e1]; rfl), (h t).2 g' e.symm])
        exact Or.inr ⟨g', cap', cur, e1, e2, (h2.block g' (lt_of_block e3) hne).trans e3, e4⟩
    · have hlt : g < w.heap.size := by
        rcases (h s).1.2 with ⟨h0, _⟩ | ⟨g', cap', cur, e1, e2, e3, e4⟩
        · rw [h0] at hg; simp [Value.ownBlock] at hg
        · rw [e1] at hg; simp [Value.ownBlock] at hg; subst hg; exact lt_of_block e3
      show (if w.heap.size ≤ g then t else own g) = s
      rw [if_neg (by omega)]
      exact (h s).2 g hg

/-- What lies below lo is kept where a row grows. -/
theorem Rws.grown_below {w w' : World} {own : Nat → List Nat} {lo : Nat} {V : List Nat → Value} {C : List Nat → Nat} {X : List Nat → List Value} (h : Rws w own lo V C X) (t : List Nat) (hlo : lo ≤ w.heap.size) (h2 : w.grownBy w' (V t).ownBlock) : Below lo w w' := by
  refine ⟨h2.os, h2.tape, h2.output, by have := h2.size; omega, fun k hk => h2.block k (by omega) (fun e => ?_)⟩
  rcases (h t).1.2 with ⟨h0, _⟩ | ⟨g', cap', cur, e1, e2, _⟩
  · rw [h0] at e; simp [Value.ownBlock] at e
  · rw [e1] at e; simp [Value.ownBlock] at e; omega

/-- 'append' of one element to a row, in a walk. -/
theorem wpList_append_rws {ops : Array Oper} {rest : List Oper} {o : Oper} {a : Act} {Q : Exit → Act → World → Prop} {w : World} {own : Nat → List Nat} {lo : Nat} {V : List Nat → Value} {C : List Nat → Nat} {X : List Nat → List Value} (hgd : o.guard = none) (s x : Operand) (ty : TypeId)
    (ho : o.op = .call { callee := .builtin .append, args := #[s, x], argTypes := #[ty, ty] }) (t : List Nat) (i : TypeInfo) (z : Value) (bytes : Nat) (ht : Ybaf.prog.underlying ty = some (.slice (E t))) (hi : Ybaf.prog.info? (E t) = some i) (hz : i.zero = some z)
    (hsize : i.size = S t) (hby : i.bytes = bytes) (hzs : z.cells.size = S t) (hsz : 0 < S t) (hs : a.eval s = V t) (R : Rws w own lo V C X)
    (ad : Addr) (c : Nat) (news : List Value) (hx : a.eval x = .slice (some ad) 1 c) (hl : news.length = S t) (hnews : ∀ j u, news[j]? = some u → w.cell? (ad.add j) = some u) (h1 : ∀ u ∈ news, u.oneCell' = true)
    (hC : C t ≤ 2000) (hb : bytes ≤ 1000) (hlo : lo ≤ w.heap.size)
    (h : ∀ v' w' own', Rws w' own' lo (upd V t v') (upd C t (C t + 1)) (upd X t (X t ++ news)) → Below lo w w' → w.heap.size ≤ w'.heap.size → (∃ g cap, v' = .slice (some ⟨g, 0, none⟩) (C t + 1) cap) → wpList Ybaf.prog ops Q rest (a.put o.dst v') w') : wpList Ybaf.prog ops Q (o :: rest) a w := by
  refine wpList_append_own_at w hgd s x ty ho lo (E t) i z (S t) bytes ht hi hz hsize hby hzs hsz (V t) (C t) (X t) hs (R t).1 ad 1 c news hx (by omega) hnews h1 (by unfold maxLen; omega) ?_ hlo ?_
  · have : (C t + 1) * bytes ≤ 2001 * 1000 := Nat.mul_le_mul (by omega) hb
    omega
  · intro v' w' k1 k2 k3 k4
    obtain ⟨own', R'⟩ := R.grow t k1 k2 k4
    refine h v' w' own' R' (R.grown_below t hlo k2) k2.size ?_
    rcases k1.2 with ⟨_, h0⟩ | ⟨g, cap, cur, e1, _⟩
    · omega
    · exact ⟨g, cap, e1⟩

/-- .. in a region that draws its order. -/
theorem step_append_rws {ops : Array Oper} {o : Oper} {a : Act} {K : Act → World → Prop} {Q : Exit → Act → World → Prop} {E' : Prop} {w : World} {own : Nat → List Nat} {lo : Nat} {V : List Nat → Value} {C : List Nat → Nat} {X : List Nat → List Value} (hgd : o.guard = none) (s x : Operand) (ty : TypeId)
    (ho : o.op = .call { callee := .builtin .append, args := #[s, x], argTypes := #[ty, ty] }) (t : List Nat) (i : TypeInfo) (z : Value) (bytes : Nat) (ht : Ybaf.prog.underlying ty = some (.slice (E t))) (hi : Ybaf.prog.info? (E t) = some i) (hz : i.zero = some z)
    (hsize : i.size = S t) (hby : i.bytes = bytes) (hzs : z.cells.size = S t) (hsz : 0 < S t) (hs : a.eval s = V t) (R : Rws w own lo V C X)
    (ad : Addr) (c : Nat) (news : List Value) (hx : a.eval x = .slice (some ad) 1 c) (hl : news.length = S t) (hnews : ∀ j u, news[j]? = some u → w.cell? (ad.add j) = some u) (h1 : ∀ u ∈ news, u.oneCell' = true)
    (hC : C t ≤ 2000) (hb : bytes ≤ 1000) (hlo : lo ≤ w.heap.size)
    (h : ∀ v' w' own', Rws w' own' lo (upd V t v') (upd C t (C t + 1)) (upd X t (X t ++ news)) → Below lo w w' → w.heap.size ≤ w'.heap.size → (∃ g cap, v' = .slice (some ⟨g, 0, none⟩) (C t + 1) cap) → K (a.put o.dst v') w') :
    if Region.wanted o (yielded ops a.tmps) = true then Oper.wp Ybaf.prog o a w K Q else E' := by
  have hw : Region.wanted o (yielded ops a.tmps) = true := by simp [Region.wanted, hgd]
  rw [if_pos hw]
  obtain ⟨v', w', hr, k1, k2, k3, k4⟩ := run_append_own_at (P := Ybaf.prog) w lo ty o.type (E t) i z (S t) bytes ht hi hz hsize hby hzs hsz (V t) (C t) (X t) (R t).1 ad 1 c news (by omega) hnews h1 (by unfold maxLen; omega) (by
    have : (C t + 1) * bytes ≤ 2001 * 1000 := Nat.mul_le_mul (by omega) hb
    omega) hlo
  unfold Oper.wp execOp
  simp only [ho, resolve, invoke, builtin, Sem.run_bind, Sem.run_pure, Result.andThen_ok, List.map_toArray, List.map_cons, List.map_nil, hs, hx, hr]
  obtain ⟨own', R'⟩ := R.grow t k1 k2 k4
  refine h v' w' own' R' (R.grown_below t hlo k2) k2.size ?_
  rcases k1.2 with ⟨_, h0⟩ | ⟨g, cap, cur, e1, _⟩
  · omega
  · exact ⟨g, cap, e1⟩
end Go.Proofs.YbulkmvuFmt
