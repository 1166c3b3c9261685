/-
  The three buffers in memory, and what 'Idle' makes of them.
-/
import Derived.Test.YbulkmvuOldest
namespace Go.Proofs.Ybulkmvu.Irmb
open Go.RowKit Go.Proofs.Ybulkmvu.Ev Go.Proofs.Ybulkmvu.Queue

/-- The irmb, behind a world w whose blocks are left alone. -/
def St (w wr : World) (idle : Bool) (wb : Int) (bc : Array Value) : Prop :=
  Below w.heap.size w wr ∧ wr.heap[w.heap.size]? = some (.cells (irmbCells idle wb (.slice (some ⟨w.heap.size + 1, 0, none⟩) 3 3)) 58 (0, 0)) ∧ wr.heap[w.heap.size + 1]? = some (.cells bc 59 (0, 0)) ∧ bc.size = 3

/-- The first k buffers: the g-th one holds n entries, each other one its mark. -/
def Bufs (W : World) (lo : Nat) (own : Nat → Nat) (bc : Array Value) (g n c : Nat) (bs : Nat → Int) (ln : Nat → Nat) (os : Nat → Nat → Int) (k : Nat) : Prop :=
  ∀ j, j < k → ∃ v, bc[j]? = some v ∧ (j = g → BufAt W (fun b => lo ≤ b ∧ own b = j) v n c bs ln os) ∧ (j ≠ g → BufAt W (fun b => lo ≤ b ∧ own b = j) v 1 1 (fun _ => (j : Int) + 100) (fun _ => 1) (fun _ _ => (j : Int)))

theorem BufAt.same {w w' : World} {P Q : Nat → Prop} {v : Value} {n c : Nat} {bs : Nat → Int} {ln : Nat → Nat} {os : Nat → Nat → Int} (h : BufAt w P v n c bs ln os) (hq : ∀ b, P b → b < w.heap.size → Q b ∧ w'.heap[b]? = w.heap[b]?) (hs : w.heap.size ≤ w'.heap.size) : BufAt w' Q v n c bs ln os := by
  obtain ⟨eb, cs, h1, h2, h3, h4, h5, h6⟩ := h
  have hl := lt_of_block h3
  refine ⟨eb, cs, h1, (hq eb h2 hl).1, (hq eb h2 hl).2.trans h3, h4, h5, fun i hi => ?_⟩
  obtain ⟨s, k, e1, e2, e3⟩ := h6 i hi
  exact ⟨s, k, e1, e2, e3.same (fun b hb hbl => ⟨⟨(hq b hb.1 hbl).1, hb.2⟩, (hq b hb.1 hbl).2⟩) hs⟩

theorem Bufs.below {w w' : World} {lo : Nat} {own : Nat → Nat} {bc : Array Value} {g n c : Nat} {bs : Nat → Int} {ln : Nat → Nat} {os : Nat → Nat → Int} {k : Nat} (h : Bufs w lo own bc g n c bs ln os k) (hb : Below w.heap.size w w') : Bufs w' lo own bc g n c bs ln os k := by
  intro j hj
  obtain ⟨v, h1, h2, h3⟩ := h j hj
  exact ⟨v, h1, fun e => (h2 e).same (fun b hb' hbl => ⟨hb', hb.block b hbl⟩) hb.size, fun e => (h3 e).same (fun b hb' hbl => ⟨hb', hb.block b hbl⟩) hb.size⟩

theorem St.below {w wr w' : World} {idle : Bool} {wb : Int} {bc : Array Value} (h : St w wr idle wb bc) (hb : Below wr.heap.size wr w') : St w w' idle wb bc := by
  obtain ⟨h1, h2, h3, h4⟩ := h
  exact ⟨h1.trans (hb.mono h1.size), (hb.block _ (lt_of_block h2)).trans h2, (hb.block _ (lt_of_block h3)).trans h3, h4⟩

/-- One more buffer is laid. -/
theorem buf_step {w wr wx : World} {idle : Bool} {wb : Int} {bc : Array Value} {own : Nat → Nat} {g n c : Nat} {bs : Nat → Int} {ln : Nat → Nat} {os : Nat → Nat → Int} {k : Nat} {v : Value} (hk : k < 3)
    (hs : St w wr idle wb bc) (hb : Bufs wr (w.heap.size + 2) own bc g n c bs ln os k) (hx : Below wr.heap.size wr wx)
    (hg : k = g → BufAt wx (fun b => wr.heap.size ≤ b) v n c bs ln os) (ho : k ≠ g → BufAt wx (fun b => wr.heap.size ≤ b) v 1 1 (fun _ => (k : Int) + 100) (fun _ => 1) (fun _ _ => (k : Int))) :
    ∃ bc' own', St w (wx.setCell ⟨w.heap.size + 1, k, none⟩ v) idle wb bc' ∧ Bufs (wx.setCell ⟨w.heap.size + 1, k, none⟩ v) (w.heap.size + 2) own' bc' g n c bs ln os (k + 1) := by
  obtain ⟨h1, h2, h3, h4⟩ := hs
  have l2 := lt_of_block h2
  have l3 := lt_of_block h3
  have sx := hx.size
  have hot : ∀ q, q ≠ w.heap.size + 1 → (wx.setCell ⟨w.heap.size + 1, k, none⟩ v).heap[q]? = wx.heap[q]? := fun q hq => heap_setCell_other _ _ _ _ (by simpa using hq)
  have hz : (wx.setCell ⟨w.heap.size + 1, k, none⟩ v).heap.size = wx.heap.size := by simp [World.setCell]
  refine ⟨bc.setIfInBounds k v, fun b => if wr.heap.size ≤ b then k else own b, ⟨?_, ?_, ?_, by simpa using h4⟩, ?_⟩
  · exact (h1.trans (hx.mono h1.size)).trans ⟨rfl, rfl, rfl, by rw [hz]; omega, fun q hq => hot q (by omega)⟩
  · rw [hot _ (by omega), hx.block _ l2, h2]
  · exact heap_setCell_same wx _ k bc 59 v ((hx.block _ l3).trans h3)
  · intro j hj
    by_cases hjk : j = k
    · subst hjk
      refine ⟨v, by simp [h4, hk], fun e => (hg e).same (fun b hb' hbl => ⟨⟨by omega, by simp [hb']⟩, hot b (by omega)⟩) (by rw [hz]; exact Nat.le_refl _), fun e => (ho e).same (fun b hb' hbl => ⟨⟨by omega, by simp [hb']⟩, hot b (by omega)⟩) (by rw [hz]; exact Nat.le_refl _)⟩
    · obtain ⟨u, e1, e2, e3⟩ := hb j (by omega)
      refine ⟨u, by rw [Array.getElem?_setIfInBounds, if_neg (by omega)]; exact e1, fun e => (e2 e).same (fun b hb' hbl => ⟨⟨hb'.1, ?_⟩, (hot b (by omega)).trans (hx.block b hbl)⟩) (by rw [hz]; exact sx), fun e => (e3 e).same (fun b hb' hbl => ⟨⟨hb'.1, ?_⟩, (hot b (by omega)).trans (hx.block b hbl)⟩) (by rw [hz]; exact sx)⟩
      · show (if wr.heap.size ≤ b then k else own b) = j
        rw [if_neg (by omega)]; exact hb'.2
      · show (if wr.heap.size ≤ b then k else own b) = j
        rw [if_neg (by omega)]; exact hb'.2

theorem one_of {cs : Array Value} {n : Nat} {bs : Nat → Int} {ln : Nat → Nat} (h : ∀ i, i < n + 1 → ∃ s k, cs[i * 2]? = some (.int .u64 (bs i)) ∧ cs[i * 2 + 1]? = some (.slice s (ln i) k)) : ∀ v, v ∈ (cs.toList.drop 2).take (n * 2) → v.oneCell' = true := by
  intro v hv
  obtain ⟨j, hj, hv⟩ := List.getElem_of_mem hv
  have hj' : j < n * 2 := by simp at hj; omega
  have hq : cs[j + 2]? = some v := by
    rw [← hv]
    simp only [List.length_take, List.length_drop, Array.length_toList] at hj
    simp [Nat.add_comm j 2]
  obtain ⟨s, k, e1, e2⟩ := h ((j + 2) / 2) (by omega)
  rcases Nat.mod_two_eq_zero_or_one (j + 2) with hm | hm
  · rw [show (j + 2) / 2 * 2 = j + 2 by omega, hq] at e1
    simp at e1
    rw [e1]; rfl
  · rw [show (j + 2) / 2 * 2 + 1 = j + 2 by omega, hq] at e2
    simp at e2
    rw [e2]; rfl

/-- Behind 'Idle': the answer. -/
def Got (w3 : World) (idle : Bool) (n : Nat) (wb wb' : Int) (bs : Nat → Int) (ln : Nat → Nat) (os : Nat → Nat → Int) (ga : Option Addr) (gl d : Nat) : Prop :=
  (d = 0 ∧ ga = none ∧ gl = 0 ∧ wb' = wb ∧ (idle = false ∨ n = 0)) ∨
    (d = 1 ∧ idle = true ∧ 0 < n ∧ gl = ln 0 ∧ wb' = wrap64 (wb + ln 0) ∧ RowAt .u64 w3 (fun _ => True) ga gl (fun j => page (bs 0) (os 0 j)))

theorem idle_step (w wr : World) (idle : Bool) (wb : Int) (bc : Array Value) (own : Nat → Nat) (g n : Nat) (bs : Nat → Int) (ln : Nat → Nat) (os : Nat → Nat → Int) (hn : n ≤ 1024) (hln : ∀ i, ln i ≤ 1024) (hg : g < 3)
    (hs : St w wr idle wb bc) (hb : Bufs wr (w.heap.size + 2) own bc g n n bs ln os 3) :
    Calls Yba.prog 12 #[.pointer (some ⟨w.heap.size, 0, none⟩), .int .i64 g] wr fun e w3 => ∃ ga gl d wb' bc', e = .returned (.slice ga gl gl) ∧ St w w3 idle wb' bc' ∧ Bufs w3 (w.heap.size + 2) own bc' g (n - d) n (fun i => bs (i + d)) (fun i => ln (i + d)) (fun i => os (i + d)) 3 ∧ Got w3 idle n wb wb' bs ln os ga gl d := by
  obtain ⟨v, hv, hvg, -⟩ := hb g hg
  obtain ⟨eb, cs, rfl, ⟨hlo, how⟩, hE, hnn, hsz, hen⟩ := hvg rfl
  obtain ⟨s1, s2, s3, s4⟩ := id hs
  by_cases hno : idle = false ∨ n = 0
  · refine (idle_no wr w.heap.size (w.heap.size + 1) g n n idle wb bc (some ⟨eb, 0, none⟩) hn hg hno s2 s3 s4 hv).mono ?_
    rintro e w3 ⟨rfl, rfl⟩
    exact ⟨none, 0, 0, wb, bc, rfl, hs, hb, Or.inl ⟨rfl, rfl, rfl, rfl, hno⟩⟩
  · obtain ⟨m, rfl⟩ : ∃ m, n = m + 1 := ⟨n - 1, by omega⟩
    obtain rfl : idle = true := by cases idle <;> simp_all
    obtain ⟨s, k, e0, e1, er⟩ := hen 0 (by omega)
    have hel := lt_of_block hE
    refine (idle_yes wr w.heap.size (w.heap.size + 1) eb g m (m + 1) wb bc cs (bs 0) s (ln 0) k (os 0) (by omega) (hln 0) hg s2 s3 s4 hv hE hsz (by omega) (by omega) (by omega) (by omega) e0 e1
      (one_of fun i hi => by obtain ⟨s, k, a1, a2, _⟩ := hen i hi; exact ⟨s, k, a1, a2⟩) (er.same (fun b hb' hbl => ⟨⟨by omega, hb'.2⟩, rfl⟩) (Nat.le_refl _))).mono ?_
    rintro e w3 ⟨v, rfl, o1, o2, o3, o4, o5, o6, o7, ⟨cs', o8, o9, o10⟩, x, rfl, orow⟩
    refine ⟨some ⟨x, 0, none⟩, ln 0, 1, wrap64 (wb + ln 0), _, rfl, ⟨⟨o1.trans s1.os, o2.trans s1.tape, o3.trans s1.output, by have := s1.size; omega, fun q hq => ?_⟩, o6, o7, by simpa using s4⟩, ?_, Or.inr ⟨rfl, rfl, by omega, rfl, rfl, orow.same (fun b _ _ => ⟨trivial, rfl⟩) (Nat.le_refl _)⟩⟩
    · rw [o5 q (by have := s1.size; omega) (by omega) (by omega) (by omega), s1.block q hq]
    · intro j hj
      by_cases hjg : j = g
      · subst hjg
        refine ⟨.slice (some ⟨eb, 0, none⟩) m (m + 1), by simp [s4, hg], fun _ => ⟨eb, cs', rfl, ⟨hlo, how⟩, o8, by omega, by omega, fun i hi => ?_⟩, fun h => absurd rfl h⟩
        have hi' : i < m := by simpa using hi
        obtain ⟨s', k', a1, a2, a3⟩ := hen (i + 1) (by omega)
        refine ⟨s', k', ?_, ?_, a3.same (fun b hb' hbl => ⟨hb', o5 b hbl (by omega) (by omega) hb'.2⟩) o4⟩
        · rw [o10 _ (by omega), ← a1]; congr 1; omega
        · rw [o10 _ (by omega), ← a2]; congr 1; omega
      · obtain ⟨u, u1, _, u3⟩ := hb j hj
        exact ⟨u, by rw [Array.getElem?_setIfInBounds, if_neg (by omega)]; exact u1, fun e => absurd e hjg, fun e => (u3 e).same (fun b hb' hbl => ⟨hb', o5 b hbl (by omega) (by omega) (fun h => by rw [h] at hb'; omega)⟩) o4⟩
end Go.Proofs.Ybulkmvu.Irmb
