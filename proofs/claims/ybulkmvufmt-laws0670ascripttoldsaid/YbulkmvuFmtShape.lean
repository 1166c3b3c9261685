/-
  The parser's tree and the law's model of it, as rows of memory.
-/
import Derived.Test.YbulkmvuFmtMem
namespace Go.Proofs.YbulkmvuFmt
open Go.RowKit

/-- The nil slice. -/
abbrev nilS : Value := .slice none 0 0

/-- The parser's tree: nk kernels; nc, nw, ni: the CTAs, warps, instructions of each. -/
def PSh (nk : Nat) (nc : Nat → Nat) (nw : Nat → Nat → Nat) (ni : Nat → Nat → Nat → Nat) (nm : Nat → ByteArray) (V : List Nat → Value) (C : List Nat → Nat) (X : List Nat → List Value) : Prop :=
  C [0] = nk ∧ (∀ i, i < nk → (X [0])[i * 2]? = some (.string (nm i)) ∧ (X [0])[i * 2 + 1]? = some (V [1, i])) ∧
  (∀ i, C [1, i] = nc i ∧ ∀ j, j < nc i → (X [1, i])[j]? = some (V [2, i, j])) ∧
  (∀ i j, C [2, i, j] = nw i j ∧ ∀ k, k < nw i j → (X [2, i, j])[k]? = some (V [3, i, j, k])) ∧
  (∀ i j k, C [3, i, j, k] = ni i j k) ∧
  (∀ i, nk ≤ i → V [1, i] = nilS ∧ nc i = 0) ∧ (∀ i j, nc i ≤ j → V [2, i, j] = nilS ∧ nw i j = 0) ∧ (∀ i j k, nw i j ≤ k → V [3, i, j, k] = nilS ∧ ni i j k = 0)

/-- The law's model of it. -/
def MSh (nk : Nat) (nc : Nat → Nat) (nw : Nat → Nat → Nat) (ni : Nat → Nat → Nat → Nat) (nm : Nat → ByteArray) (V : List Nat → Value) (C : List Nat → Nat) (X : List Nat → List Value) : Prop :=
  C [4] = nk ∧ (∀ i, i < nk → (X [4])[i]? = some (V [5, i])) ∧
  (∀ i, C [5, i] = nc i ∧ ∀ j, j < nc i → (X [5, i])[j]? = some (V [6, i, j])) ∧
  (∀ i j, C [6, i, j] = nw i j ∧ ∀ k, k < nw i j → (X [6, i, j])[k]? = some (.int .i64 (ni i j k))) ∧
  C [7] = nk ∧ (∀ i, i < nk → (X [7])[i]? = some (.string (nm i))) ∧
  (∀ i, nk ≤ i → V [5, i] = nilS ∧ nc i = 0) ∧ (∀ i j, nc i ≤ j → V [6, i, j] = nilS ∧ nw i j = 0)

/-- The allocations on both sides. -/
def ASh (na : Nat) (C : List Nat → Nat) (X : List Nat → List Value) : Prop :=
  C [8] = na ∧ C [9] = na ∧ C [10] = na ∧ C [11] = na ∧ X [10] = X [8] ∧ X [11] = X [9] ∧
  (∀ i, i < na → ∃ a n l : Int, (X [8])[i * 2]? = some (.int .u64 a) ∧ (X [8])[i * 2 + 1]? = some (.int .u64 n) ∧ (X [9])[i]? = some (.int .i64 l))

def bump1 (f : Nat → Nat) (n : Nat) : Nat → Nat := fun i => if i = n then f i + 1 else f i
def bump2 (f : Nat → Nat → Nat) (n m : Nat) : Nat → Nat → Nat := fun i j => if i = n ∧ j = m then f i j + 1 else f i j
def bump3 (f : Nat → Nat → Nat → Nat) (n m p : Nat) : Nat → Nat → Nat → Nat := fun i j k => if i = n ∧ j = m ∧ k = p then f i j k + 1 else f i j k

theorem PSh.same {nk : Nat} {nc : Nat → Nat} {nw : Nat → Nat → Nat} {ni : Nat → Nat → Nat → Nat} {nm : Nat → ByteArray} {V V' : List Nat → Value} {C C' : List Nat → Nat} {X X' : List Nat → List Value} (h : PSh nk nc nw ni nm V C X)
    (hv : ∀ a l, a < 4 → V' (a :: l) = V (a :: l)) (hc : ∀ a l, a < 4 → C' (a :: l) = C (a :: l)) (hx : ∀ a l, a < 4 → X' (a :: l) = X (a :: l)) : PSh nk nc nw ni nm V' C' X' := by
  obtain ⟨h1, h2, h3, h4, h5, h6, h7, h8⟩ := h
  refine ⟨by rw [hc _ _ (by omega)]; exact h1, fun i hi => by rw [hx _ _ (by omega), hv _ _ (by omega)]; exact h2 i hi, fun i => ⟨by rw [hc _ _ (by omega)]; exact (h3 i).1, fun j hj => by rw [hx _ _ (by omega), hv _ _ (by omega)]; exact (h3 i).2 j hj⟩,
    fun i j => ⟨by rw [hc _ _ (by omega)]; exact (h4 i j).1, fun k hk => by rw [hx _ _ (by omega), hv _ _ (by omega)]; exact (h4 i j).2 k hk⟩, fun i j k => by rw [hc _ _ (by omega)]; exact h5 i j k,
    fun i hi => by rw [hv _ _ (by omega)]; exact h6 i hi, fun i j hj => by rw [hv _ _ (by omega)]; exact h7 i j hj, fun i j k hk => by rw [hv _ _ (by omega)]; exact h8 i j k hk⟩

theorem MSh.same {nk : Nat} {nc : Nat → Nat} {nw : Nat → Nat → Nat} {ni : Nat → Nat → Nat → Nat} {nm : Nat → ByteArray} {V V' : List Nat → Value} {C C' : List Nat → Nat} {X X' : List Nat → List Value} (h : MSh nk nc nw ni nm V C X)
    (hv : ∀ a l, 4 ≤ a → a < 8 → V' (a :: l) = V (a :: l)) (hc : ∀ a l, 4 ≤ a → a < 8 → C' (a :: l) = C (a :: l)) (hx : ∀ a l, 4 ≤ a → a < 8 → X' (a :: l) = X (a :: l)) : MSh nk nc nw ni nm V' C' X' := by
  obtain ⟨h1, h2, h3, h4, h5, h6, h7, h8⟩ := h
  refine ⟨by rw [hc _ _ (by omega) (by omega)]; exact h1, fun i hi => by rw [hx _ _ (by omega) (by omega), hv _ _ (by omega) (by omega)]; exact h2 i hi, fun i => ⟨by rw [hc _ _ (by omega) (by omega)]; exact (h3 i).1, fun j hj => by rw [hx _ _ (by omega) (by omega), hv _ _ (by omega) (by omega)]; exact (h3 i).2 j hj⟩,
    fun i j => ⟨by rw [hc _ _ (by omega) (by omega)]; exact (h4 i j).1, fun k hk => by rw [hx _ _ (by omega) (by omega)]; exact (h4 i j).2 k hk⟩, by rw [hc _ _ (by omega) (by omega)]; exact h5, fun i hi => by rw [hx _ _ (by omega) (by omega)]; exact h6 i hi,
    fun i hi => by rw [hv _ _ (by omega) (by omega)]; exact h7 i hi, fun i j hj => by rw [hv _ _ (by omega) (by omega)]; exact h8 i j hj⟩

theorem ASh.same {na : Nat} {C C' : List Nat → Nat} {X X' : List Nat → List Value} (h : ASh na C X) (hc : ∀ a l, 8 ≤ a → C' (a :: l) = C (a :: l)) (hx : ∀ a l, 8 ≤ a → X' (a :: l) = X (a :: l)) : ASh na C' X' := by
  obtain ⟨h1, h2, h3, h4, h5, h6, h7⟩ := h
  exact ⟨by rw [hc _ _ (by omega)]; exact h1, by rw [hc _ _ (by omega)]; exact h2, by rw [hc _ _ (by omega)]; exact h3, by rw [hc _ _ (by omega)]; exact h4, by rw [hx _ _ (by omega), hx _ _ (by omega)]; exact h5, by rw [hx _ _ (by omega), hx _ _ (by omega)]; exact h6, fun i hi => by rw [hx _ _ (by omega), hx _ _ (by omega)]; exact h7 i hi⟩

theorem PSh.kernel {nk : Nat} {nc : Nat → Nat} {nw : Nat → Nat → Nat} {ni : Nat → Nat → Nat → Nat} {nm : Nat → ByteArray} {V : List Nat → Value} {C : List Nat → Nat} {X : List Nat → List Value} (h : PSh nk nc nw ni nm V C X) (hl : (X [0]).length = nk * 2) (v' : Value) (name : ByteArray) :
    PSh (nk + 1) nc nw ni (fun i => if i = nk then name else nm i) (upd V [0] v') (upd C [0] (C [0] + 1)) (upd X [0] (X [0] ++ [.string name, .slice none 0 0])) := by
  obtain ⟨h1, h2, h3, h4, h5, h6, h7, h8⟩ := h
  refine ⟨by rw [upd_same, h1], fun i hi => ?_, fun i => ⟨by rw [upd_other _ _ (by simp)]; exact (h3 i).1, fun j hj => by rw [upd_other _ _ (by simp), upd_other _ _ (by simp)]; exact (h3 i).2 j hj⟩,
    fun i j => ⟨by rw [upd_other _ _ (by simp)]; exact (h4 i j).1, fun k hk => by rw [upd_other _ _ (by simp), upd_other _ _ (by simp)]; exact (h4 i j).2 k hk⟩, fun i j k => by rw [upd_other _ _ (by simp)]; exact h5 i j k,
    fun i hi => by rw [upd_other _ _ (by simp)]; exact h6 i (by omega), fun i j hj => by rw [upd_other _ _ (by simp)]; exact h7 i j hj, fun i j k hk => by rw [upd_other _ _ (by simp)]; exact h8 i j k hk⟩
  rw [upd_same, upd_other _ _ (by simp)]
  dsimp only
  by_cases hik : i = nk
  · subst hik
    rw [if_pos rfl, (h6 i (by omega)).1, List.getElem?_append_right (by omega), List.getElem?_append_right (by omega), hl, Nat.sub_self, show i * 2 + 1 - i * 2 = 1 by omega]
    exact ⟨rfl, rfl⟩
  · rw [if_neg hik, List.getElem?_append_left (by omega), List.getElem?_append_left (by omega)]
    exact h2 i (by omega)

theorem set_get {l : List Value} {j k : Nat} {u v : Value} (h : l[k]? = some v) : (l.set j u)[k]? = some (if k = j then u else v) := by
  have hk := (List.getElem?_eq_some_iff.1 h).1
  by_cases e : k = j
  · subst e
    rw [if_pos rfl, List.getElem?_set_self hk]
  · rw [if_neg e, List.getElem?_set_ne (Ne.symm e), h]

theorem PSh.cta {nk : Nat} {nc : Nat → Nat} {nw : Nat → Nat → Nat} {ni : Nat → Nat → Nat → Nat} {nm : Nat → ByteArray} {V : List Nat → Value} {C : List Nat → Nat} {X : List Nat → List Value} (h : PSh nk nc nw ni nm V C X) (n : Nat) (hn : n < nk) (hl : (X [1, n]).length = nc n) (v' : Value) :
    PSh nk (bump1 nc n) nw ni nm (upd V [1, n] v') (upd C [1, n] (C [1, n] + 1)) (upd (upd X [1, n] (X [1, n] ++ [.slice none 0 0])) [0] ((X [0]).set (n * 2 + 1) v')) := by
  obtain ⟨h1, h2, h3, h4, h5, h6, h7, h8⟩ := h
  refine ⟨by rw [upd_other _ _ (by simp)]; exact h1, fun i hi => ?_, fun i => ?_, fun i j => ⟨by rw [upd_other _ _ (by simp)]; exact (h4 i j).1, fun k hk => by rw [upd_other _ _ (by simp), upd_other _ _ (by simp), upd_other _ _ (by simp)]; exact (h4 i j).2 k hk⟩,
    fun i j k => by rw [upd_other _ _ (by simp)]; exact h5 i j k, fun i hi => ?_, fun i j hj => ?_, fun i j k hk => by rw [upd_other _ _ (by simp)]; exact h8 i j k hk⟩
  · rw [upd_same, set_get (h2 i hi).1, set_get (h2 i hi).2, if_neg (by omega)]
    refine ⟨rfl, ?_⟩
    by_cases e : i = n
    · subst e; rw [if_pos rfl, upd_same]
    · rw [if_neg (by omega), upd_other _ _ (by simpa using e)]
  · by_cases e : i = n
    · subst e
      refine ⟨by rw [upd_same, (h3 i).1, bump1, if_pos rfl], fun j hj => ?_⟩
      rw [bump1, if_pos rfl] at hj
      rw [upd_other _ _ (by simp), upd_same, upd_other _ _ (by simp)]
      by_cases ej : j < nc i
      · rw [List.getElem?_append_left (by omega)]; exact (h3 i).2 j ej
      · obtain rfl : j = nc i := by omega
        rw [List.getElem?_append_right (by omega), hl, Nat.sub_self, (h7 i (nc i) (Nat.le_refl _)).1]; rfl
    · refine ⟨by rw [upd_other _ _ (by simpa using e), bump1, if_neg e]; exact (h3 i).1, fun j hj => ?_⟩
      rw [bump1, if_neg e] at hj
      rw [upd_other _ _ (by simp), upd_other _ _ (by simpa using e), upd_other _ _ (by simp)]
      exact (h3 i).2 j hj
  · rw [upd_other _ _ (by simp; omega), bump1, if_neg (by omega)]; exact h6 i hi
  · rw [upd_other _ _ (by simp)]
    refine h7 i j ?_
    rw [bump1] at hj
    split at hj <;> omega

theorem PSh.warp {nk : Nat} {nc : Nat → Nat} {nw : Nat → Nat → Nat} {ni : Nat → Nat → Nat → Nat} {nm : Nat → ByteArray} {V : List Nat → Value} {C : List Nat → Nat} {X : List Nat → List Value} (h : PSh nk nc nw ni nm V C X) (n m : Nat) (hm : m < nc n) (hl : (X [2, n, m]).length = nw n m) (v' : Value) :
    PSh nk nc (bump2 nw n m) ni nm (upd V [2, n, m] v') (upd C [2, n, m] (C [2, n, m] + 1)) (upd (upd X [2, n, m] (X [2, n, m] ++ [.slice none 0 0])) [1, n] ((X [1, n]).set m v')) := by
  obtain ⟨h1, h2, h3, h4, h5, h6, h7, h8⟩ := h
  refine ⟨by rw [upd_other _ _ (by simp)]; exact h1, fun i hi => by rw [upd_other _ _ (by simp), upd_other _ _ (by simp), upd_other _ _ (by simp)]; exact h2 i hi, fun i => ⟨by rw [upd_other _ _ (by simp)]; exact (h3 i).1, fun j hj => ?_⟩, fun i j => ?_,
    fun i j k => by rw [upd_other _ _ (by simp)]; exact h5 i j k, fun i hi => by rw [upd_other _ _ (by simp)]; exact h6 i hi, fun i j hj => ?_, fun i j k hk => ?_⟩
  · by_cases e : i = n
    · subst e
      rw [upd_same, set_get ((h3 i).2 j hj)]
      by_cases ej : j = m
      · subst ej; rw [if_pos rfl, upd_same]
      · rw [if_neg ej, upd_other _ _ (by simpa using ej)]
    · rw [upd_other _ _ (by simpa using e), upd_other _ _ (by simp), upd_other _ _ (by simp [e])]
      exact (h3 i).2 j hj
  · by_cases e : i = n ∧ j = m
    · obtain ⟨rfl, rfl⟩ := e
      refine ⟨by rw [upd_same, (h4 i j).1, bump2, if_pos ⟨rfl, rfl⟩], fun k hk => ?_⟩
      rw [bump2, if_pos ⟨rfl, rfl⟩] at hk
      rw [upd_other _ _ (by simp), upd_same, upd_other _ _ (by simp)]
      by_cases ek : k < nw i j
      · rw [List.getElem?_append_left (by omega)]; exact (h4 i j).2 k ek
      · obtain rfl : k = nw i j := by omega
        rw [List.getElem?_append_right (by omega), hl, Nat.sub_self, (h8 i j (nw i j) (Nat.le_refl _)).1]; rfl
    · refine ⟨by rw [upd_other _ _ (by simpa using e), bump2, if_neg e]; exact (h4 i j).1, fun k hk => ?_⟩
      rw [bump2, if_neg e] at hk
      rw [upd_other _ _ (by simp), upd_other _ _ (by simpa using e), upd_other _ _ (by simp)]
      exact (h4 i j).2 k hk
  · have e : ¬ (i = n ∧ j = m) := fun e => by rw [e.1, e.2] at hj; omega
    rw [upd_other _ _ (by simpa using e), bump2, if_neg e]
    exact h7 i j hj
  · rw [upd_other _ _ (by simp)]
    refine h8 i j k ?_
    rw [bump2] at hk
    split at hk <;> omega

theorem PSh.ins {nk : Nat} {nc : Nat → Nat} {nw : Nat → Nat → Nat} {ni : Nat → Nat → Nat → Nat} {nm : Nat → ByteArray} {V : List Nat → Value} {C : List Nat → Nat} {X : List Nat → List Value} (h : PSh nk nc nw ni nm V C X) (n m p : Nat) (hp : p < nw n m) (v' : Value) (cs : List Value) :
    PSh nk nc nw (bump3 ni n m p) nm (upd V [3, n, m, p] v') (upd C [3, n, m, p] (C [3, n, m, p] + 1)) (upd (upd X [3, n, m, p] (X [3, n, m, p] ++ cs)) [2, n, m] ((X [2, n, m]).set p v')) := by
  obtain ⟨h1, h2, h3, h4, h5, h6, h7, h8⟩ := h
  refine ⟨by rw [upd_other _ _ (by simp)]; exact h1, fun i hi => by rw [upd_other _ _ (by simp), upd_other _ _ (by simp), upd_other _ _ (by simp)]; exact h2 i hi, fun i => ⟨by rw [upd_other _ _ (by simp)]; exact (h3 i).1, fun j hj => by rw [upd_other _ _ (by simp), upd_other _ _ (by simp), upd_other _ _ (by simp)]; exact (h3 i).2 j hj⟩, fun i j => ⟨by rw [upd_other _ _ (by simp)]; exact (h4 i j).1, fun k hk => ?_⟩,
    fun i j k => ?_, fun i hi => by rw [upd_other _ _ (by simp)]; exact h6 i hi, fun i j hj => by rw [upd_other _ _ (by simp)]; exact h7 i j hj, fun i j k hk => ?_⟩
  · by_cases e : i = n ∧ j = m
    · obtain ⟨rfl, rfl⟩ := e
      rw [upd_same, set_get ((h4 i j).2 k hk)]
      by_cases ek : k = p
      · subst ek; rw [if_pos rfl, upd_same]
      · rw [if_neg ek, upd_other _ _ (by simpa using ek)]
    · rw [upd_other _ _ (by simpa using e), upd_other _ _ (by simp), upd_other _ _ (by simp; intro a b; exact absurd ⟨a, b⟩ e)]
      exact (h4 i j).2 k hk
  · by_cases e : i = n ∧ j = m ∧ k = p
    · obtain ⟨rfl, rfl, rfl⟩ := e
      rw [upd_same, h5, bump3, if_pos ⟨rfl, rfl, rfl⟩]
    · rw [upd_other _ _ (by simpa using e), bump3, if_neg e]
      exact h5 i j k
  · have e : ¬ (i = n ∧ j = m ∧ k = p) := fun e => by rw [e.1, e.2.1, e.2.2] at hk; omega
    rw [upd_other _ _ (by simpa using e), bump3, if_neg e]
    exact h8 i j k hk

theorem MSh.kernel {nk : Nat} {nc : Nat → Nat} {nw : Nat → Nat → Nat} {ni : Nat → Nat → Nat → Nat} {nm : Nat → ByteArray} {V : List Nat → Value} {C : List Nat → Nat} {X : List Nat → List Value} (h : MSh nk nc nw ni nm V C X) (hl : (X [4]).length = nk) (hl7 : (X [7]).length = nk) (v4 v7 : Value) (name : ByteArray) :
    MSh (nk + 1) nc nw ni (fun i => if i = nk then name else nm i) (upd (upd V [4] v4) [7] v7) (upd (upd C [4] (C [4] + 1)) [7] (C [7] + 1)) (upd (upd X [4] (X [4] ++ [.slice none 0 0])) [7] (X [7] ++ [.string name])) := by
  obtain ⟨h1, h2, h3, h4, h5, h6, h7, h8⟩ := h
  refine ⟨by rw [upd_other _ _ (by simp), upd_same, h1], fun i hi => ?_, fun i => ⟨by rw [upd_other _ _ (by simp), upd_other _ _ (by simp)]; exact (h3 i).1, fun j hj => by rw [upd_other _ _ (by simp), upd_other _ _ (by simp), upd_other _ _ (by simp), upd_other _ _ (by simp)]; exact (h3 i).2 j hj⟩,
    fun i j => ⟨by rw [upd_other _ _ (by simp), upd_other _ _ (by simp)]; exact (h4 i j).1, fun k hk => by rw [upd_other _ _ (by simp), upd_other _ _ (by simp)]; exact (h4 i j).2 k hk⟩, by rw [upd_same, h5], fun i hi => ?_,
    fun i hi => by rw [upd_other _ _ (by simp), upd_other _ _ (by simp)]; exact h7 i (by omega), fun i j hj => by rw [upd_other _ _ (by simp), upd_other _ _ (by simp)]; exact h8 i j hj⟩
  · rw [upd_other _ _ (by simp), upd_same, upd_other _ _ (by simp), upd_other _ _ (by simp)]
    by_cases hik : i = nk
    · subst hik
      rw [(h7 i (by omega)).1, List.getElem?_append_right (by omega), hl, Nat.sub_self]; rfl
    · rw [List.getElem?_append_left (by omega)]
      exact h2 i (by omega)
  · rw [upd_same]
    dsimp only
    by_cases hik : i = nk
    · subst hik
      rw [if_pos rfl, List.getElem?_append_right (by omega), hl7, Nat.sub_self]; rfl
    · rw [if_neg hik, List.getElem?_append_left (by omega)]
      exact h6 i (by omega)

theorem MSh.cta {nk : Nat} {nc : Nat → Nat} {nw : Nat → Nat → Nat} {ni : Nat → Nat → Nat → Nat} {nm : Nat → ByteArray} {V : List Nat → Value} {C : List Nat → Nat} {X : List Nat → List Value} (h : MSh nk nc nw ni nm V C X) (n : Nat) (hn : n < nk) (hl : (X [5, n]).length = nc n) (v' : Value) :
    MSh nk (bump1 nc n) nw ni nm (upd V [5, n] v') (upd C [5, n] (C [5, n] + 1)) (upd (upd X [5, n] (X [5, n] ++ [.slice none 0 0])) [4] ((X [4]).set n v')) := by
  obtain ⟨h1, h2, h3, h4, h5, h6, h7, h8⟩ := h
  refine ⟨by rw [upd_other _ _ (by simp)]; exact h1, fun i hi => ?_, fun i => ?_, fun i j => ⟨by rw [upd_other _ _ (by simp)]; exact (h4 i j).1, fun k hk => by rw [upd_other _ _ (by simp), upd_other _ _ (by simp)]; exact (h4 i j).2 k hk⟩,
    by rw [upd_other _ _ (by simp)]; exact h5, fun i hi => by rw [upd_other _ _ (by simp), upd_other _ _ (by simp)]; exact h6 i hi, fun i hi => ?_, fun i j hj => ?_⟩
  · rw [upd_same, set_get (h2 i hi)]
    by_cases e : i = n
    · subst e; rw [if_pos rfl, upd_same]
    · rw [if_neg e, upd_other _ _ (by simpa using e)]
  · by_cases e : i = n
    · subst e
      refine ⟨by rw [upd_same, (h3 i).1, bump1, if_pos rfl], fun j hj => ?_⟩
      rw [bump1, if_pos rfl] at hj
      rw [upd_other _ _ (by simp), upd_same, upd_other _ _ (by simp)]
      by_cases ej : j < nc i
      · rw [List.getElem?_append_left (by omega)]; exact (h3 i).2 j ej
      · obtain rfl : j = nc i := by omega
        rw [List.getElem?_append_right (by omega), hl, Nat.sub_self, (h8 i (nc i) (Nat.le_refl _)).1]; rfl
    · refine ⟨by rw [upd_other _ _ (by simpa using e), bump1, if_neg e]; exact (h3 i).1, fun j hj => ?_⟩
      rw [bump1, if_neg e] at hj
      rw [upd_other _ _ (by simp), upd_other _ _ (by simpa using e), upd_other _ _ (by simp)]
      exact (h3 i).2 j hj
  · rw [upd_other _ _ (by simp; omega), bump1, if_neg (by omega)]; exact h7 i hi
  · rw [upd_other _ _ (by simp)]
    refine h8 i j ?_
    rw [bump1] at hj
    split at hj <;> omega

theorem MSh.warp {nk : Nat} {nc : Nat → Nat} {nw : Nat → Nat → Nat} {ni : Nat → Nat → Nat → Nat} {nm : Nat → ByteArray} {V : List Nat → Value} {C : List Nat → Nat} {X : List Nat → List Value} (h : MSh nk nc nw ni nm V C X) (n m : Nat) (hm : m < nc n) (hl : (X [6, n, m]).length = nw n m) (hz : ni n m (nw n m) = 0) (v' : Value) :
    MSh nk nc (bump2 nw n m) ni nm (upd V [6, n, m] v') (upd C [6, n, m] (C [6, n, m] + 1)) (upd (upd X [6, n, m] (X [6, n, m] ++ [.int .i64 0])) [5, n] ((X [5, n]).set m v')) := by
  obtain ⟨h1, h2, h3, h4, h5, h6, h7, h8⟩ := h
  refine ⟨by rw [upd_other _ _ (by simp)]; exact h1, fun i hi => by rw [upd_other _ _ (by simp), upd_other _ _ (by simp), upd_other _ _ (by simp)]; exact h2 i hi, fun i => ⟨by rw [upd_other _ _ (by simp)]; exact (h3 i).1, fun j hj => ?_⟩, fun i j => ?_,
    by rw [upd_other _ _ (by simp)]; exact h5, fun i hi => by rw [upd_other _ _ (by simp), upd_other _ _ (by simp)]; exact h6 i hi, fun i hi => by rw [upd_other _ _ (by simp)]; exact h7 i hi, fun i j hj => ?_⟩
  · by_cases e : i = n
    · subst e
      rw [upd_same, set_get ((h3 i).2 j hj)]
      by_cases ej : j = m
      · subst ej; rw [if_pos rfl, upd_same]
      · rw [if_neg ej, upd_other _ _ (by simpa using ej)]
    · rw [upd_other _ _ (by simpa using e), upd_other _ _ (by simp), upd_other _ _ (by simp [e])]
      exact (h3 i).2 j hj
  · by_cases e : i = n ∧ j = m
    · obtain ⟨rfl, rfl⟩ := e
      refine ⟨by rw [upd_same, (h4 i j).1, bump2, if_pos ⟨rfl, rfl⟩], fun k hk => ?_⟩
      rw [bump2, if_pos ⟨rfl, rfl⟩] at hk
      rw [upd_other _ _ (by simp), upd_same]
      by_cases ek : k < nw i j
      · rw [List.getElem?_append_left (by omega)]; exact (h4 i j).2 k ek
      · obtain rfl : k = nw i j := by omega
        rw [List.getElem?_append_right (by omega), hl, Nat.sub_self, hz]; rfl
    · refine ⟨by rw [upd_other _ _ (by simpa using e), bump2, if_neg e]; exact (h4 i j).1, fun k hk => ?_⟩
      rw [bump2, if_neg e] at hk
      rw [upd_other _ _ (by simp), upd_other _ _ (by simpa using e)]
      exact (h4 i j).2 k hk
  · have e : ¬ (i = n ∧ j = m) := fun e => by rw [e.1, e.2] at hj; omega
    rw [upd_other _ _ (by simpa using e), bump2, if_neg e]
    exact h8 i j hj

theorem MSh.ins {nk : Nat} {nc : Nat → Nat} {nw : Nat → Nat → Nat} {ni : Nat → Nat → Nat → Nat} {nm : Nat → ByteArray} {V : List Nat → Value} {C : List Nat → Nat} {X : List Nat → List Value} (h : MSh nk nc nw ni nm V C X) (n m p : Nat) (hp : p < nw n m) :
    MSh nk nc nw (bump3 ni n m p) nm V C (upd X [6, n, m] ((X [6, n, m]).set p (.int .i64 ((ni n m p : Int) + 1)))) := by
  obtain ⟨h1, h2, h3, h4, h5, h6, h7, h8⟩ := h
  refine ⟨h1, fun i hi => by rw [upd_other _ _ (by simp)]; exact h2 i hi, fun i => ⟨(h3 i).1, fun j hj => by rw [upd_other _ _ (by simp)]; exact (h3 i).2 j hj⟩, fun i j => ⟨(h4 i j).1, fun k hk => ?_⟩,
    h5, fun i hi => by rw [upd_other _ _ (by simp)]; exact h6 i hi, h7, h8⟩
  by_cases e : i = n ∧ j = m
  · obtain ⟨rfl, rfl⟩ := e
    rw [upd_same, set_get ((h4 i j).2 k hk)]
    by_cases ek : k = p
    · subst ek; rw [if_pos rfl, bump3, if_pos ⟨rfl, rfl, rfl⟩]; simp
    · rw [if_neg ek, bump3, if_neg (by simp [ek])]
  · rw [upd_other _ _ (by simpa using e), bump3, if_neg (fun x => e ⟨x.1, x.2.1⟩)]
    exact (h4 i j).2 k hk

theorem ASh.add {na : Nat} {C C' : List Nat → Nat} {X X' : List Nat → List Value} (h : ASh na C X) (hl8 : (X [8]).length = na * 2) (hl9 : (X [9]).length = na) (a n l : Int)
    (c8 : C' [8] = C [8] + 1) (c9 : C' [9] = C [9] + 1) (c10 : C' [10] = C [10] + 1) (c11 : C' [11] = C [11] + 1)
    (x8 : X' [8] = X [8] ++ [.int .u64 a, .int .u64 n]) (x9 : X' [9] = X [9] ++ [.int .i64 l]) (x10 : X' [10] = X [10] ++ [.int .u64 a, .int .u64 n]) (x11 : X' [11] = X [11] ++ [.int .i64 l]) : ASh (na + 1) C' X' := by
  obtain ⟨h1, h2, h3, h4, h5, h6, h7⟩ := h
  refine ⟨by omega, by omega, by omega, by omega, by rw [x10, x8, h5], by rw [x11, x9, h6], fun i hi => ?_⟩
  rw [x8, x9]
  by_cases e : i = na
  · subst e
    refine ⟨a, n, l, ?_, ?_, ?_⟩
    · rw [List.getElem?_append_right (by omega), hl8, Nat.sub_self]; rfl
    · rw [List.getElem?_append_right (by omega), hl8, show i * 2 + 1 - i * 2 = 1 by omega]; rfl
    · rw [List.getElem?_append_right (by omega), hl9, Nat.sub_self]; rfl
  · obtain ⟨a', n', l', q1, q2, q3⟩ := h7 i (by omega)
    exact ⟨a', n', l', by rw [List.getElem?_append_left (by omega)]; exact q1, by rw [List.getElem?_append_left (by omega)]; exact q2, by rw [List.getElem?_append_left (by omega)]; exact q3⟩
end Go.Proofs.YbulkmvuFmt
