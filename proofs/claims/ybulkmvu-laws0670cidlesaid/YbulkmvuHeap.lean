/-
  A binary heap of events, in plain terms: what a step up and a step down do to its order.
-/
import Derived.Test.YbulkmvuEv
namespace Go.Proofs.Ybulkmvu.Heap
open Go.Proofs.Ybulkmvu.Ev

def d0 : Ev := ⟨0, 0, 0, 0⟩
/-- The event at place i. -/
def g (L : List Ev) (i : Nat) : Ev := L.getD i d0
def swap (L : List Ev) (i j : Nat) : List Ev := (L.set i (g L j)).set j (g L i)

theorem swap_length (L : List Ev) (i j : Nat) : (swap L i j).length = L.length := by simp [swap]

theorem g_set (L : List Ev) (i k : Nat) (e : Ev) (hi : i < L.length) : g (L.set i e) k = if k = i then e else g L k := by
  unfold g
  rw [List.getD_eq_getElem?_getD, List.getD_eq_getElem?_getD, List.getElem?_set]
  by_cases h : i = k
  · subst h; simp [hi]
  · have h' : ¬ k = i := fun e => h e.symm
    simp [h, h']

theorem g_swap (L : List Ev) (i j k : Nat) (hi : i < L.length) (hj : j < L.length) : g (swap L i j) k = if k = j then g L i else if k = i then g L j else g L k := by
  unfold swap
  rw [g_set _ _ _ _ (by simpa using hj), g_set _ _ _ _ hi]

theorem g_eq (L : List Ev) (i : Nat) (h : i < L.length) : g L i = L[i] := by
  unfold g
  rw [List.getD_eq_getElem?_getD, List.getElem?_eq_getElem h]
  rfl

theorem swap_perm (L : List Ev) (i j : Nat) (hi : i < L.length) (hj : j < L.length) : (swap L i j).Perm L := by
  unfold swap
  rw [g_eq L i hi, g_eq L j hj]
  exact List.set_set_perm hi hj

def Heap (L : List Ev) : Prop := ∀ k, 0 < k → k < L.length → ¬ Lt (g L k) (g L ((k - 1) / 2))

/-- Heap order but between i and its parent. -/
def Up (L : List Ev) (i : Nat) : Prop :=
  (∀ k, 0 < k → k < L.length → k ≠ i → ¬ Lt (g L k) (g L ((k - 1) / 2))) ∧ (0 < i → ∀ k, 0 < k → k < L.length → (k - 1) / 2 = i → ¬ Lt (g L k) (g L ((i - 1) / 2)))

theorem g_append_left (L M : List Ev) (k : Nat) (h : k < L.length) : g (L ++ M) k = g L k := by
  unfold g
  rw [List.getD_eq_getElem?_getD, List.getD_eq_getElem?_getD, List.getElem?_append_left h]

theorem up_start (L : List Ev) (e : Ev) (h : Heap L) : Up (L ++ [e]) L.length := by
  refine ⟨fun k h0 hk hne => ?_, fun _ k h0 hk hp => ?_⟩
  · have hk' : k < L.length := by simp at hk; omega
    rw [g_append_left L _ k hk', g_append_left L _ _ (by omega)]
    exact h k h0 hk'
  · simp at hk; omega

theorem up_step (L : List Ev) (i : Nat) (h0 : 0 < i) (hi : i < L.length) (h : Up L i) (hlt : Lt (g L i) (g L ((i - 1) / 2))) : Up (swap L i ((i - 1) / 2)) ((i - 1) / 2) := by
  obtain ⟨h1, h2⟩ := h
  have h2 := h2 h0
  generalize hp : (i - 1) / 2 = p at *
  have hpi : p < i := by omega
  have hpl : p < L.length := by omega
  have gs := fun k => g_swap L i p k hi hpl
  refine ⟨fun k hk0 hk hne => ?_, fun hp0 k hk0 hk hkp => ?_⟩
  · rw [swap_length] at hk
    rw [gs, gs, if_neg hne]
    by_cases hki : k = i
    · subst hki
      rw [if_pos rfl, if_pos hp]
      exact hlt.asymm
    · rw [if_neg hki]
      by_cases hkp : (k - 1) / 2 = p
      · rw [if_pos hkp]
        have := h1 k hk0 hk hki
        rw [hkp] at this
        exact fun hl => this (hl.trans hlt)
      · rw [if_neg hkp]
        by_cases hkc : (k - 1) / 2 = i
        · rw [if_pos hkc]
          exact h2 k hk0 hk hkc
        · rw [if_neg hkc]
          exact h1 k hk0 hk hki
  · rw [swap_length] at hk
    rw [gs, gs]
    have hkp' : ¬ k = p := by omega
    have hq1 : ¬ (p - 1) / 2 = p := by omega
    have hq2 : ¬ (p - 1) / 2 = i := by omega
    have hpp := h1 p hp0 hpl (by omega)
    rw [if_neg hkp', if_neg hq1, if_neg hq2]
    by_cases hki : k = i
    · rw [if_pos hki]
      exact hpp
    · rw [if_neg hki]
      have := h1 k hk0 hk hki
      rw [hkp] at this
      exact nLt_trans this hpp

theorem up_end (L : List Ev) (i : Nat) (h : Up L i) (he : i = 0 ∨ ¬ Lt (g L i) (g L ((i - 1) / 2))) : Heap L := by
  intro k h0 hk
  by_cases hki : k = i
  · subst hki
    rcases he with he | he
    · omega
    · exact he
  · exact h.1 k h0 hk hki

/-- Heap order but between i and its children. -/
def Down (L : List Ev) (i : Nat) : Prop :=
  (∀ k, 0 < k → k < L.length → (k - 1) / 2 ≠ i → ¬ Lt (g L k) (g L ((k - 1) / 2))) ∧ (0 < i → ∀ k, 0 < k → k < L.length → (k - 1) / 2 = i → ¬ Lt (g L k) (g L ((i - 1) / 2)))

theorem down_step (L : List Ev) (i l : Nat) (hl0 : 0 < l) (hl : l < L.length) (hp : (l - 1) / 2 = i) (h : Down L i) (hlt : Lt (g L l) (g L i))
    (hleast : ∀ k, 0 < k → k < L.length → (k - 1) / 2 = i → ¬ Lt (g L k) (g L l)) : Down (swap L i l) l := by
  obtain ⟨h1, h2⟩ := h
  have hil : i < l := by omega
  have hi : i < L.length := by omega
  have gs := fun k => g_swap L i l k hi hl
  refine ⟨fun k hk0 hk hne => ?_, fun _ k hk0 hk hkl => ?_⟩
  · rw [swap_length] at hk
    rw [gs, gs, if_neg hne]
    by_cases hkl : k = l
    · subst hkl
      rw [if_pos rfl, if_pos hp]
      exact hlt.asymm
    · rw [if_neg hkl]
      by_cases hki : k = i
      · subst hki
        have hpk : ¬ (k - 1) / 2 = k := by omega
        rw [if_pos rfl, if_neg hpk]
        exact h2 hk0 l hl0 hl hp
      · rw [if_neg hki]
        by_cases hkp : (k - 1) / 2 = i
        · rw [if_pos hkp]
          exact hleast k hk0 hk hkp
        · rw [if_neg hkp]
          exact h1 k hk0 hk hkp
  · rw [swap_length] at hk
    rw [gs, gs, hp]
    have a1 : ¬ k = l := by omega
    have a2 : ¬ k = i := by omega
    have a3 : ¬ i = l := by omega
    rw [if_neg a1, if_neg a2, if_neg a3, if_pos rfl]
    have := h1 k hk0 hk (by omega)
    rw [hkl] at this
    exact this

theorem down_end (L : List Ev) (i : Nat) (h : Down L i) (he : ∀ k, 0 < k → k < L.length → (k - 1) / 2 = i → ¬ Lt (g L k) (g L i)) : Heap L := by
  intro k h0 hk
  by_cases hkp : (k - 1) / 2 = i
  · rw [hkp]
    exact he k h0 hk hkp
  · exact h.1 k h0 hk hkp

/-- The last event put in the first's place, and the list cut by one. -/
def cut (L : List Ev) : List Ev := (L.set 0 (g L (L.length - 1))).take (L.length - 1)

theorem cut_length (L : List Ev) : (cut L).length = L.length - 1 := by simp [cut]

theorem g_take (L : List Ev) (n k : Nat) (h : k < n) : g (L.take n) k = g L k := by
  unfold g
  rw [List.getD_eq_getElem?_getD, List.getD_eq_getElem?_getD, List.getElem?_take, if_pos h]

theorem down_start (L : List Ev) (h : Heap L) : Down (cut L) 0 := by
  refine ⟨fun k h0 hk hp => ?_, fun h0 => absurd h0 (by omega)⟩
  rw [cut_length] at hk
  unfold cut
  rw [g_take _ _ _ hk, g_take _ _ _ (by omega), g_set _ _ _ _ (by omega), g_set _ _ _ _ (by omega), if_neg (by omega), if_neg hp]
  exact h k h0 (by omega)

theorem cut_perm (L : List Ev) (h : 0 < L.length) : L.Perm (g L 0 :: cut L) := by
  match L, h with
  | a :: r, _ =>
    rcases List.eq_nil_or_concat r with rfl | ⟨m, z, rfl⟩
    · simp [cut, g]
    · rw [List.concat_eq_append]
      have e : cut (a :: (m ++ [z])) = z :: m := by
        simp [cut, g]
      have e0 : g (a :: (m ++ [z])) 0 = a := rfl
      rw [e, e0]
      exact List.Perm.cons a (List.perm_append_singleton z m)

theorem heap_min (L : List Ev) (h : Heap L) : ∀ k, k < L.length → ¬ Lt (g L k) (g L 0) := by
  intro k
  induction k using Nat.strongRecOn with
  | ind k ih =>
    intro hk
    by_cases h0 : k = 0
    · subst h0; exact Lt.irrefl _
    · exact nLt_trans (h k (by omega) hk) (ih ((k - 1) / 2) (by omega) (by omega))

theorem heap_min_mem (L : List Ev) (h : Heap L) (x : Ev) (hx : x ∈ L) : ¬ Lt x (g L 0) := by
  obtain ⟨k, hk, rfl⟩ := List.mem_iff_getElem.1 hx
  have := heap_min L h k hk
  rw [g_eq L k hk] at this
  exact this

end Go.Proofs.Ybulkmvu.Heap
