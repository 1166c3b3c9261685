/-
  The model of 'LawS0670BScript': the events pushed, which of them are gone, which is the least of the rest.
-/
import Derived.Test.YbulkmvuDrainPlain
namespace Go.Proofs.Ybulkmvu.Model
open Go.RowKit Go.Proofs.Ybulkmvu.Ev Go.Proofs.Ybulkmvu.Heap Go.Proofs.Ybulkmvu.Queue

/-- The events that are not gone. -/
def alive (E : List Ev) (D : Nat → Bool) : List Ev := ((List.range E.length).filter fun i => !D i).map (g E)

/-- Each event bears its place as its number. -/
def Numbered (E : List Ev) : Prop := ∀ i, i < E.length → (g E i).seq = (i : Int)

theorem mem_alive {E : List Ev} {D : Nat → Bool} {x : Ev} : x ∈ alive E D ↔ ∃ i, i < E.length ∧ D i = false ∧ g E i = x := by
  simp only [alive, List.mem_map, List.mem_filter, List.mem_range]
  constructor
  · rintro ⟨i, ⟨h1, h2⟩, h3⟩; exact ⟨i, h1, by simpa using h2, h3⟩
  · rintro ⟨i, h1, h2, h3⟩; exact ⟨i, ⟨h1, by simpa using h2⟩, h3⟩

/-- The least of those among the first k that are not gone: none, or place b. -/
def Best (E : List Ev) (D : Nat → Bool) (k : Nat) (b : Option Nat) : Prop :=
  match b with
  | none => ∀ i, i < k → D i = true
  | some i => i < k ∧ D i = false ∧ ∀ j, j < k → D j = false → ¬ Lt (g E j) (g E i)

theorem best_start (E : List Ev) (D : Nat → Bool) : Best E D 0 none := fun i h => absurd h (by omega)
theorem best_gone {E : List Ev} {D : Nat → Bool} {k : Nat} {b : Option Nat} (h : Best E D k b) (hd : D k = true) : Best E D (k + 1) b := by
  cases b with
  | none => intro i hi; by_cases e : i = k; · subst e; exact hd
            · exact h i (by omega)
  | some i =>
    obtain ⟨h1, h2, h3⟩ := h
    refine ⟨by omega, h2, fun j hj hdj => ?_⟩
    by_cases e : j = k
    · subst e; rw [hd] at hdj; simp at hdj
    · exact h3 j (by omega) hdj
theorem best_first {E : List Ev} {D : Nat → Bool} {k : Nat} (h : Best E D k none) (hd : D k = false) : Best E D (k + 1) (some k) := by
  refine ⟨by omega, hd, fun j hj hdj => ?_⟩
  by_cases e : j = k
  · subst e; exact Lt.irrefl _
  · have := h j (by omega); rw [this] at hdj; simp at hdj
theorem best_less {E : List Ev} {D : Nat → Bool} {k i : Nat} (h : Best E D k (some i)) (hd : D k = false) (hl : Lt (g E k) (g E i)) : Best E D (k + 1) (some k) := by
  obtain ⟨h1, h2, h3⟩ := h
  refine ⟨by omega, hd, fun j hj hdj => ?_⟩
  by_cases e : j = k
  · subst e; exact Lt.irrefl _
  · exact fun hl2 => h3 j (by omega) hdj (hl2.trans hl)
theorem best_keep {E : List Ev} {D : Nat → Bool} {k i : Nat} (h : Best E D k (some i)) (hl : ¬ Lt (g E k) (g E i)) : Best E D (k + 1) (some i) := by
  obtain ⟨h1, h2, h3⟩ := h
  refine ⟨by omega, h2, fun j hj hdj => ?_⟩
  by_cases e : j = k
  · subst e; exact hl
  · exact h3 j (by omega) hdj

/-- What is popped is what the model finds. -/
theorem best_is {E : List Ev} {D : Nat → Bool} {L : List Ev} {b : Option Nat} (hn : Numbered E) (hp : L.Perm (alive E D)) (hh : Heap L) (hL : 0 < L.length) (hb : Best E D E.length b) : ∃ i, b = some i ∧ i < E.length ∧ D i = false ∧ g E i = g L 0 := by
  have hm : g L 0 ∈ L := by rw [g_eq L 0 hL]; exact List.getElem_mem hL
  obtain ⟨i, hi, hd, hg⟩ := mem_alive.1 (hp.subset hm)
  cases b with
  | none => have := hb i hi; rw [this] at hd; simp at hd
  | some j =>
    obtain ⟨h1, h2, h3⟩ := hb
    have hjm : g E j ∈ L := hp.symm.subset (mem_alive.2 ⟨j, h1, h2, rfl⟩)
    have n1 := heap_min_mem L hh _ hjm
    have n2 := h3 i hi hd
    rw [hg] at n2
    have hs : (g E j).seq = (g L 0).seq := by
      apply Classical.byContradiction
      intro hne
      exact n2 (DrainPlain.lt_total n1 hne)
    rw [← hg, hn j h1, hn i hi] at hs
    have : j = i := by omega
    subst this
    exact ⟨j, rfl, h1, h2, hg⟩

/-- One more gone. -/
def goneAt (D : Nat → Bool) (i : Nat) : Nat → Bool := fun j => if j = i then true else D j

theorem filter_perm (D : Nat → Bool) (i : Nat) (hd : D i = false) : ∀ (n : Nat), i < n → ((List.range n).filter fun j => !D j).Perm (i :: (List.range n).filter fun j => !(goneAt D i) j) := by
  intro n
  induction n with
  | zero => intro h; omega
  | succ n ih =>
    intro h
    rw [List.range_succ, List.filter_append, List.filter_append]
    by_cases hn : i = n
    · subst hn
      have e1 : (List.range i).filter (fun j => !(goneAt D i) j) = (List.range i).filter (fun j => !D j) := by
        apply List.filter_congr
        intro j hj
        have : j ≠ i := by simp at hj; omega
        simp [goneAt, this]
      rw [e1]
      have e2 : [i].filter (fun j => !D j) = [i] := by simp [hd]
      have e3 : [i].filter (fun j => !(goneAt D i) j) = [] := by simp [goneAt]
      rw [e2, e3, List.append_nil]
      exact List.perm_append_singleton i _
    · have e2 : [n].filter (fun j => !(goneAt D i) j) = [n].filter (fun j => !D j) := by
        apply List.filter_congr
        intro j hj
        simp only [List.mem_singleton] at hj
        have : j ≠ i := by omega
        simp [goneAt, this]
      rw [e2]
      exact (List.Perm.append_right _ (ih (by omega)))

theorem alive_pop {E : List Ev} {D : Nat → Bool} {L L' : List Ev} {i : Nat} (hp : L.Perm (alive E D)) (hi : i < E.length) (hd : D i = false) (hg : g E i = g L 0) (hL : L.Perm (g L 0 :: L')) : L'.Perm (alive E (goneAt D i)) := by
  have h1 : (alive E D).Perm (g E i :: alive E (goneAt D i)) := by
    have := (filter_perm D i hd E.length hi).map (g E)
    simpa [alive] using this
  rw [hg] at h1
  exact List.Perm.cons_inv (hL.symm.trans (hp.trans h1))

theorem alive_push {E : List Ev} {D : Nat → Bool} {L L' : List Ev} {e : Ev} (hp : L.Perm (alive E D)) (hd : D E.length = false) (hL : L'.Perm (L ++ [e])) : L'.Perm (alive (E ++ [e]) D) := by
  refine hL.trans ?_
  have : alive (E ++ [e]) D = alive E D ++ [e] := by
    unfold alive
    rw [List.length_append, List.length_singleton, List.range_succ, List.filter_append, List.map_append]
    have e1 : ((List.range E.length).filter fun i => !D i).map (g (E ++ [e])) = ((List.range E.length).filter fun i => !D i).map (g E) := by
      apply List.map_congr_left
      intro i hi
      have : i < E.length := by have := (List.mem_filter.1 hi).1; simpa using this
      exact g_append_left E [e] i this
    have e2 : [E.length].filter (fun i => !D i) = [E.length] := by simp [hd]
    have e3 : g (E ++ [e]) E.length = e := by simp [g]
    rw [e1, e2]
    simp [e3]
  rw [this]
  exact List.Perm.append_right _ hp

end Go.Proofs.Ybulkmvu.Model
