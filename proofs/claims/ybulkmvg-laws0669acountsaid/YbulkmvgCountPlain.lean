/-
  The plain law of 'LawS0669ACount': a tree that is given by 'node i hangs under par i < i' has as many nodes as it was given. No Go here.
-/
namespace Go.Proofs.Ybulkmvg.CountPlain

/-- The nodes among 1 .. m - 1 that hang under v, in their order. -/
def kids (par : Nat → Nat) (m v : Nat) : List Nat := (List.range m).filter fun i => decide (1 ≤ i) && par i == v

theorem kids_one (par : Nat → Nat) (v : Nat) : kids par 1 v = [] := by
  simp [kids, List.range_succ]

theorem kids_zero (par : Nat → Nat) (v : Nat) : kids par 0 v = [] := rfl

theorem kids_hit (par : Nat → Nat) (m v : Nat) (h1 : 1 ≤ m) (h : par m = v) : kids par (m + 1) v = kids par m v ++ [m] := by
  simp [kids, List.range_succ, h1, h]

theorem kids_miss (par : Nat → Nat) (m v : Nat) (h : par m ≠ v) : kids par (m + 1) v = kids par m v := by
  simp [kids, List.range_succ, h]

theorem mem_kids {par : Nat → Nat} {m v i : Nat} : i ∈ kids par m v ↔ i < m ∧ 1 ≤ i ∧ par i = v := by
  simp [kids]

theorem kids_length (par : Nat → Nat) (m v : Nat) : (kids par m v).length ≤ m := by
  have := List.length_filter_le (fun i => decide (1 ≤ i) && par i == v) (List.range m)
  simpa [kids] using this

/-- How many nodes hang under v, itself counted in; 'f' bounds the depth. -/
def size (Ls : Nat → List Nat) : Nat → Nat → Nat
  | 0, _ => 1
  | f + 1, v => 1 + ((Ls v).map (size Ls f)).sum

theorem size_stable (Ls : Nat → List Nat) (n : Nat) (hk : ∀ v c, c ∈ Ls v → v < c ∧ c < n) : ∀ (f v : Nat), n - v ≤ f → size Ls (f + 1) v = size Ls (f + 2) v := by
  intro f
  induction f with
  | zero =>
    intro v hv
    have : Ls v = [] := by
      apply List.eq_nil_iff_forall_not_mem.2
      intro c hc
      have := hk v c hc
      omega
    simp [size, this]
  | succ f ih =>
    intro v hv
    show 1 + ((Ls v).map (size Ls (f + 1))).sum = 1 + ((Ls v).map (size Ls (f + 2))).sum
    have : (Ls v).map (size Ls (f + 1)) = (Ls v).map (size Ls (f + 2)) := List.map_congr_left fun c hc => by
      have := hk v c hc
      exact ih c (by omega)
    rw [this]

/-- The size of v's tree, whatever the bound. -/
def tot (Ls : Nat → List Nat) (n v : Nat) : Nat := size Ls (n + 1) v

theorem tot_eq (Ls : Nat → List Nat) (n : Nat) (hk : ∀ v c, c ∈ Ls v → v < c ∧ c < n) (v : Nat) : tot Ls n v = 1 + ((Ls v).map (tot Ls n)).sum := by
  have h1 : size Ls (n + 1) v = 1 + ((Ls v).map (size Ls n)).sum := rfl
  unfold tot
  rw [h1]
  have : (Ls v).map (size Ls n) = (Ls v).map (size Ls (n + 1)) := List.map_congr_left fun c hc => by
    have := hk v c hc
    cases n with
    | zero => omega
    | succ m => exact size_stable Ls (m + 1) hk m c (by omega)
  rw [this]

/-- What hangs under the first k nodes, of the nodes from k on. -/
def front (par : Nat → Nat) (t : Nat → Nat) (n k : Nat) : Nat := (((List.range n).filter fun i => decide (k ≤ i) && decide (par i < k)).map t).sum

theorem sum_split (t : Nat → Nat) (p q : Nat → Bool) (l : List Nat) (hpq : ∀ i ∈ l, ¬ (p i = true ∧ q i = true)) :
    ((l.filter fun i => p i || q i).map t).sum = ((l.filter p).map t).sum + ((l.filter q).map t).sum := by
  induction l with
  | nil => rfl
  | cons a l ih =>
    have ih' := ih fun i hi => hpq i (List.mem_cons_of_mem _ hi)
    have ha := hpq a List.mem_cons_self
    cases hp : p a <;> cases hq : q a <;> simp [hp, hq, ih'] <;> first | omega | (simp [hp, hq] at ha)

theorem filter_one (t : Nat → Nat) (n k : Nat) (h : k < n) : (((List.range n).filter fun i => i == k).map t).sum = t k := by
  induction n with
  | zero => omega
  | succ n ih =>
    rw [List.range_succ, List.filter_append, List.map_append, List.sum_append]
    by_cases hk : k = n
    · subst hk
      have : (List.range k).filter (fun i => i == k) = [] := by
        apply List.filter_eq_nil_iff.2
        intro i hi
        simp at hi ⊢
        omega
      simp [this]
    · rw [ih (by omega)]
      have : ((n == k) = false) := by simp; omega
      simp [this]

theorem front_step (par t : Nat → Nat) (n k : Nat) (hpar : ∀ i, 1 ≤ i → i < n → par i < i) (ht : t k = 1 + ((kids par n k).map t).sum) (hk : 1 ≤ k) (hkn : k < n) :
    front par t n k = front par t n (k + 1) + 1 := by
  -- 'front (k+1)' and k itself: the nodes behind k under the first k, and those under k
  have e1 : front par t n k = (((List.range n).filter fun i => decide (k < i) && decide (par i < k)).map t).sum + t k := by
    unfold front
    have hf : (List.range n).filter (fun i => decide (k ≤ i) && decide (par i < k)) = (List.range n).filter (fun i => (decide (k < i) && decide (par i < k)) || (i == k)) := by
      apply List.filter_congr
      intro i hi
      have hi' : i < n := by simpa using hi
      by_cases hik : i = k
      · subst hik
        have := hpar i hk hi'
        simp [this]
      · have h1 : (i == k) = false := by simp [hik]
        have h2 : decide (k ≤ i) = decide (k < i) := by
          apply decide_eq_decide.2
          omega
        simp [h1, h2]
    rw [hf, sum_split, filter_one t n k hkn]
    intro i hi hh
    simp at hh
    omega
  have e2 : front par t n (k + 1) = (((List.range n).filter fun i => decide (k < i) && decide (par i < k)).map t).sum + ((kids par n k).map t).sum := by
    unfold front kids
    have hf : (List.range n).filter (fun i => decide (k + 1 ≤ i) && decide (par i < k + 1)) = (List.range n).filter (fun i => (decide (k < i) && decide (par i < k)) || (decide (1 ≤ i) && par i == k)) := by
      apply List.filter_congr
      intro i hi
      have hi' : i < n := by simpa using hi
      rw [Bool.eq_iff_iff]
      simp
      constructor
      · intro h; omega
      · intro h
        rcases h with h | ⟨h, h2⟩
        · omega
        · have := hpar i h hi'
          omega
    rw [hf, sum_split]
    intro i hi hh
    simp at hh
    omega
  omega

theorem front_all (par t : Nat → Nat) (n : Nat) (hpar : ∀ i, 1 ≤ i → i < n → par i < i) (ht : ∀ k, t k = 1 + ((kids par n k).map t).sum) :
    ∀ (d k : Nat), 1 ≤ k → k + d = n → front par t n k = d := by
  intro d
  induction d with
  | zero =>
    intro k _ hk
    have hk' : k = n := by omega
    subst hk'
    unfold front
    have : (List.range k).filter (fun i => decide (k ≤ i) && decide (par i < k)) = [] := by
      apply List.filter_eq_nil_iff.2
      intro i hi
      simp at hi ⊢
      omega
    simp [this]
  | succ d ih =>
    intro k h1 hk
    rw [front_step par t n k hpar (ht k) h1 (by omega), ih (k + 1) (by omega) (by omega)]

/-- THE PLAIN LAW. -/
theorem count (par : Nat → Nat) (n : Nat) (hn : 1 ≤ n) (hpar : ∀ i, 1 ≤ i → i < n → par i < i) : tot (kids par n) n 0 = n := by
  have hk : ∀ v c, c ∈ kids par n v → v < c ∧ c < n := fun v c hc => by
    have h := mem_kids.1 hc
    have := hpar c h.2.1 h.1
    omega
  have ht := tot_eq (kids par n) n hk
  have hf := front_all par (tot (kids par n) n) n hpar ht (n - 1) 1 (Nat.le_refl _) (by omega)
  have e : front par (tot (kids par n) n) n 1 = ((kids par n 0).map (tot (kids par n) n)).sum := by
    unfold front
    have : (List.range n).filter (fun i => decide (1 ≤ i) && decide (par i < 1)) = kids par n 0 := by
      unfold kids
      apply List.filter_congr
      intro i _
      rw [Bool.eq_iff_iff]
      simp
    rw [this]
  have h0 := ht 0
  omega

end Go.Proofs.Ybulkmvg.CountPlain
