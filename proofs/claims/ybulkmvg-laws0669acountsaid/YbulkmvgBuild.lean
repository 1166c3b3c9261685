/-
  'zzs0669abuild': the tree that it builds.
-/
import Derived.Test.YbulkmvgNodes
import Derived.Test.YbulkmvgCountPlain
import Derived.Deep.AppendLies
import Derived.Deep.RegionLaw
import Derived.Deep.DrawnRows
namespace Go.Proofs.Ybulkmvg.Build
open Go.RowKit Go.Proofs.Ybulkmvg.Nodes Go.Proofs.Ybulkmvg.CountPlain

theorem info27 : (Yba.prog.info? 27).map (fun i => (i.zero, i.size, i.bytes)) = some (some (.agg #[.string ByteArray.empty, .int .i64 0, .slice none 0 0]), 3, 48) := by kernel_rfl

theorem hide {p : Prop} (h : p) : Hid p := h

/-- As 'TreeAt', and all its rows lie in blocks from 'lo' on. -/
def TreeFrom (w : World) (lo : Nat) : Nat → Value → Nat → Prop
  | 0, _, _ => False
  | d + 1, v, n => ∃ (s : ByteArray) (k : Int) (ao : Option Addr) (len cap : Nat) (ns : List Nat),
      v = .agg #[.string s, .int .i64 k, .slice ao len cap] ∧ ns.length = len ∧ len ≤ 1000000 ∧ n = 1 + ns.sum ∧
      (0 < len → ∃ b, lo ≤ b ∧ ao = some ⟨b, 0, none⟩ ∧ ∀ i, i < len → ∃ (s' : ByteArray) (k' : Int) (ao' : Option Addr) (len' cap' : Nat),
        w.cell? ⟨b, i * 3, none⟩ = some (.string s') ∧ w.cell? ⟨b, i * 3 + 1, none⟩ = some (.int .i64 k') ∧ w.cell? ⟨b, i * 3 + 2, none⟩ = some (.slice ao' len' cap') ∧
        TreeFrom w lo d (.agg #[.string s', .int .i64 k', .slice ao' len' cap']) (ns.getD i 0))

theorem TreeFrom.at {w : World} {lo : Nat} : ∀ (d : Nat) (v : Value) (n : Nat), TreeFrom w lo d v n → TreeAt w d v n := by
  intro d
  induction d with
  | zero => intro v n h; exact h
  | succ d ih =>
    intro v n h
    obtain ⟨s, k, ao, len, cap, ns, hv, hl, hm, hn, hk⟩ := h
    refine ⟨s, k, ao, len, cap, ns, hv, hl, hm, hn, fun h0 => ?_⟩
    obtain ⟨b, _, hb, hi⟩ := hk h0
    refine ⟨b, hb, fun i hlt => ?_⟩
    obtain ⟨s', k', ao', len', cap', h1, h2, h3, h4⟩ := hi i hlt
    exact ⟨s', k', ao', len', cap', h1, h2, h3, ih _ _ h4⟩

/-- It lies wherever the cells from 'lo' on lie. -/
theorem TreeFrom.later {w w' : World} {lo lo' : Nat} (hlo : lo' ≤ lo) (h : ∀ a v, lo ≤ a.block → w.cell? a = some v → w'.cell? a = some v) : ∀ (d : Nat) (v : Value) (n : Nat), TreeFrom w lo d v n → TreeFrom w' lo' d v n := by
  intro d
  induction d with
  | zero => intro v n hh; exact hh
  | succ d ih =>
    intro v n hh
    obtain ⟨s, k, ao, len, cap, ns, hv, hl, hm, hn, hk⟩ := hh
    refine ⟨s, k, ao, len, cap, ns, hv, hl, hm, hn, fun h0 => ?_⟩
    obtain ⟨b, hlb, hb, hi⟩ := hk h0
    refine ⟨b, by omega, hb, fun i hlt => ?_⟩
    obtain ⟨s', k', ao', len', cap', h1, h2, h3, h4⟩ := hi i hlt
    exact ⟨s', k', ao', len', cap', h _ _ hlb h1, h _ _ hlb h2, h _ _ hlb h3, ih _ _ h4⟩

/-- The lists 'Ls' lie in w: in block K a slice for each of the n nodes. -/
def KidsAt (w : World) (K n : Nat) (Ls : Nat → List Nat) : Prop :=
  ∀ v, v < n → ∃ ao cap, w.cell? ⟨K, v, none⟩ = some (.slice ao (Ls v).length cap) ∧
    ∀ j, j < (Ls v).length → ∃ b, ao = some ⟨b, 0, none⟩ ∧ w.cell? ⟨b, j, none⟩ = some (.int .i64 ((Ls v).getD j 0 : Nat))

/-- The bytes that came in. -/
def BytesAt (w : World) (ka : Option Addr) (len : Nat) : Prop :=
  ∀ i, i < len → ∃ b off z, ka = some ⟨b, off, none⟩ ∧ w.cell? ⟨b, off + i, none⟩ = some (.int .u8 z) ∧ 0 ≤ z ∧ z ≤ 255

theorem KidsAt.later {w w' : World} {K n : Nat} {Ls : Nat → List Nat} (h : KidsAt w K n Ls) (hb : Below w.heap.size w w') : KidsAt w' K n Ls := fun v hv => by
  obtain ⟨ao, cap, h1, h2⟩ := h v hv
  refine ⟨ao, cap, cell_later hb h1, fun j hj => ?_⟩
  obtain ⟨b, h3, h4⟩ := h2 j hj
  exact ⟨b, h3, cell_later hb h4⟩

theorem BytesAt.later {w w' : World} {ka : Option Addr} {len : Nat} (h : BytesAt w ka len) (hb : Below w.heap.size w w') : BytesAt w' ka len := fun i hi => by
  obtain ⟨b, off, z, h1, h2, h3⟩ := h i hi
  exact ⟨b, off, z, h1, cell_later hb h2, h3⟩

theorem grown_of_below {w w' : World} (h : Below w.heap.size w w') (row : Option Nat) : w.grownBy w' row := ⟨h.os, h.tape, h.output, h.size, fun k hk _ => h.block k hk⟩
theorem below_of_grown {w w' : World} (h : w.grownBy w' none) : Below w.heap.size w w' := ⟨h.os, h.tape, h.output, h.size, fun k hk => h.block k hk (by simp)⟩

/-- append within the capacity, as one step of a region that draws. -/
theorem step_fits {P : Program} (w : World) {ops : Array Oper} {o : Oper} {a : Act} {K : Act → World → Prop} {Q : Exit → Act → World → Prop} {E : Prop}
    (hg : o.guard = none) (s x : Operand) (t : TypeId) (hop : o.op = Op.call { callee := Callee.builtin Builtin.append, args := #[s, x], argTypes := #[t, t] })
    (base : Nat) (e : TypeId) (i : TypeInfo) (size : Nat) (h1 : P.underlying t = some (.slice e)) (h2 : P.info? e = some i) (h4 : i.size = size)
    (g k cap : Nat) (xs : List Value) (hs : a.eval s = .slice (some ⟨g, 0, none⟩) k cap) (hown : w.ownsRow base e size (.slice (some ⟨g, 0, none⟩) k cap) k xs)
    (ad : Addr) (m c : Nat) (news : List Value) (hx : a.eval x = .slice (some ad) m c) (hn : news.length = m * size) (hc : ∀ j u, news[j]? = some u → w.cell? (ad.add j) = some u) (h1c : ∀ u ∈ news, u.oneCell' = true) (b1 : k + m ≤ cap)
    (hK : ∀ w', w'.ownsRow base e size (.slice (some ⟨g, 0, none⟩) (k + m) cap) (k + m) (xs ++ news) → w.grownBy w' (some g) → K (a.put o.dst (.slice (some ⟨g, 0, none⟩) (k + m) cap)) w') :
    if Region.wanted o (yielded ops a.tmps) = true then Oper.wp P o a w K Q else E := by
  have hw : Region.wanted o (yielded ops a.tmps) = true := by simp [Region.wanted, hg]
  rw [if_pos hw]
  obtain ⟨w', hrun, r1, r2⟩ := run_append_fits (P := P) w base t o.type e i size h1 h2 h4 g k cap xs hown ad m c news hn hc h1c b1
  unfold Oper.wp
  simp [execOp, hop, resolve, invoke, builtin, hs, hx, hrun, Result.andThen]
  exact hK w' r1 r2

/-- What holds at the head of each round of the loop over v's children. -/
def Inv (w : World) (Ls : Nat → List Nat) (v f m C g : Nat) (s : ByteArray) (k : Int) (j : Nat) (wr : World) : Prop :=
  wr.heap[w.heap.size]? = some (.cells #[.string ByteArray.empty, .int .i64 0, .slice none 0 0] 27 (0, 0)) ∧
  wr.heap[C]? = some (.cells #[.string s, .int .i64 k, .slice (some ⟨g, 0, none⟩) j m] 27 (0, 0)) ∧
  g < wr.heap.size ∧
  Below w.heap.size w wr ∧
  ∃ xs, wr.ownsRow (g) 27 3 (.slice (some ⟨g, 0, none⟩) j m) j xs ∧
    ∀ i, i < j → ∃ (s' : ByteArray) (k' : Int) (ao' : Option Addr) (len' cap' : Nat), xs[i * 3]? = some (.string s') ∧ xs[i * 3 + 1]? = some (.int .i64 k') ∧ xs[i * 3 + 2]? = some (.slice ao' len' cap') ∧
      TreeFrom wr (g + 1) f (.agg #[.string s', .int .i64 k', .slice ao' len' cap']) (size Ls f ((Ls v).getD i 0))

theorem inv_step {w wr w1 w2 : World} {Ls : Nat → List Nat} {v f m C g : Nat} {s : ByteArray} {k : Int} {j : Nat} {xs : List Value} {s' : ByteArray} {k' : Int} {ao' : Option Addr} {len' cap' : Nat}
    (hC : w.heap.size < C) (hCg : C < g)
    (h0 : wr.heap[w.heap.size]? = some (.cells #[.string ByteArray.empty, .int .i64 0, .slice none 0 0] 27 (0, 0)))
    (h2 : wr.heap[C]? = some (.cells #[.string s, .int .i64 k, .slice (some ⟨g, 0, none⟩) j m] 27 (0, 0)))
    (hlt : g < wr.heap.size) (hbel : Below w.heap.size w wr)
    (hown : wr.ownsRow (g) 27 3 (.slice (some ⟨g, 0, none⟩) j m) j xs)
    (ht : ∀ i, i < j → ∃ (s' : ByteArray) (k' : Int) (ao' : Option Addr) (len' cap' : Nat), xs[i * 3]? = some (.string s') ∧ xs[i * 3 + 1]? = some (.int .i64 k') ∧ xs[i * 3 + 2]? = some (.slice ao' len' cap') ∧
      TreeFrom wr (g + 1) f (.agg #[.string s', .int .i64 k', .slice ao' len' cap']) (size Ls f ((Ls v).getD i 0)))
    (hb1 : Below wr.heap.size wr w1) (hn : TreeFrom w1 wr.heap.size f (.agg #[.string s', .int .i64 k', .slice ao' len' cap']) (size Ls f ((Ls v).getD j 0)))
    (hown2 : w2.ownsRow (g) 27 3 (.slice (some ⟨g, 0, none⟩) (j + 1) m) (j + 1) (xs ++ [.string s', .int .i64 k', .slice ao' len' cap']))
    (hgr : (w1.alloc (.cells #[.string s', .int .i64 k', .slice ao' len' cap'] 27)).grownBy w2 (some (g))) :
    w2.heap[C]? = some (.cells #[.string s, .int .i64 k, .slice (some ⟨g, 0, none⟩) j m] 27 (0, 0)) ∧
    Inv w Ls v f m C g s k (j + 1) (w2.setCell ⟨C, 2, none⟩ (.slice (some ⟨g, 0, none⟩) (j + 1) m)) := by
  have hs1 := hb1.size
  have hs2 := hgr.size
  simp at hs2
  -- a block of wr other than the row is in w2 as it was
  have hk : ∀ q, q < wr.heap.size → q ≠ g → w2.heap[q]? = wr.heap[q]? := fun q hq hne => by
    rw [hgr.block q (by simp; omega) (by simpa using hne), Below.heap_alloc _ _ _ (by omega), hb1.block q hq]
  have hk1 : ∀ q, q < w1.heap.size → q ≠ g → w2.heap[q]? = w1.heap[q]? := fun q hq hne => by
    rw [hgr.block q (by simp; omega) (by simpa using hne), Below.heap_alloc _ _ _ (by omega)]
  have e2 : w2.heap[C]? = some (.cells #[.string s, .int .i64 k, .slice (some ⟨g, 0, none⟩) j m] 27 (0, 0)) := by rw [hk _ (by omega) (by omega)]; exact h2
  have e0 : w2.heap[w.heap.size]? = some (.cells #[.string ByteArray.empty, .int .i64 0, .slice none 0 0] 27 (0, 0)) := by rw [hk _ (by omega) (by omega)]; exact h0
  have hb2 : Below w.heap.size w w2 := hbel.trans ⟨hgr.os.trans hb1.os, hgr.tape.trans hb1.tape, hgr.output.trans hb1.output, by omega, fun q hq => hk q (by omega) (by omega)⟩
  have hx : xs.length = j * 3 := hown.1
  refine ⟨e2, ?_, ?_, ?_, ?_, xs ++ [.string s', .int .i64 k', .slice ao' len' cap'], ?_, ?_⟩
  · rw [heap_setCell_other _ _ _ _ (by simp; omega)]; exact e0
  · rw [heap_setCell_same _ _ _ _ _ _ e2]; simp
  · simp [World.setCell]; omega
  · exact hb2.setCell (p := ⟨C, 2, none⟩) (by simp; omega) _
  · exact ownsRow_setCell_below hown2 (by simp; omega) _
  · intro i hi
    by_cases hij : i < j
    · obtain ⟨s1, k1, ao1, len1, cap1, c0, c1, c2, c3⟩ := ht i hij
      refine ⟨s1, k1, ao1, len1, cap1, ?_, ?_, ?_, ?_⟩
      · rw [List.getElem?_append_left (by omega)]; exact c0
      · rw [List.getElem?_append_left (by omega)]; exact c1
      · rw [List.getElem?_append_left (by omega)]; exact c2
      · refine TreeFrom.later (Nat.le_refl _) (fun a u ha hc => ?_) _ _ _ c3
        have hlt' := block_lt_of_cell hc
        rw [World.cell?_of_block (w := wr) ?_]
        · exact hc
        · rw [heap_setCell_other _ _ _ _ (by simp; omega), hk _ hlt' (by omega)]
    · obtain rfl : i = j := by omega
      refine ⟨s', k', ao', len', cap', ?_, ?_, ?_, ?_⟩
      · rw [List.getElem?_append_right (by omega), hx]; simp
      · rw [List.getElem?_append_right (by omega), hx]; simp
      · rw [List.getElem?_append_right (by omega), hx]; simp
      · refine TreeFrom.later (by omega) (fun a u ha hc => ?_) _ _ _ hn
        have hlt' := block_lt_of_cell hc
        rw [World.cell?_of_block (w := w1) ?_]
        · exact hc
        · rw [heap_setCell_other _ _ _ _ (by simp; omega), hk1 _ hlt' (by omega)]

theorem add0 (g j : Nat) : (⟨g, 0, none⟩ : Addr).add j = ⟨g, j, none⟩ := by unfold Addr.add; split <;> simp_all

theorem inv_end {w wr w' : World} {Ls : Nat → List Nat} {v f m C g : Nat} {s : ByteArray} {k : Int} (hg : w.heap.size ≤ g) (hm : (Ls v).length = m) (hb : m ≤ 1025) (h : Inv w Ls v f m C g s k m wr)
    (hcell : ∀ a u, g ≤ a.block → wr.cell? a = some u → w'.cell? a = some u) :
    TreeFrom w' w.heap.size (f + 1) (.agg #[.string s, .int .i64 k, .slice (some ⟨g, 0, none⟩) m m]) (size Ls (f + 1) v) := by
  obtain ⟨_, _, _, _, xs, hown, ht⟩ := h
  refine ⟨s, k, _, m, m, (Ls v).map (size Ls f), rfl, by simp [hm], by omega, rfl, fun h0 => ⟨g, by omega, rfl, fun i hi => ?_⟩⟩
  obtain ⟨s', k', ao', len', cap', c0, c1, c2, c3⟩ := ht i hi
  have c := hown.cells (g := g) rfl
  have e0 := c _ _ c0
  have e1 := c _ _ c1
  have e2 := c _ _ c2
  rw [add0] at e0 e1 e2
  refine ⟨s', k', ao', len', cap', hcell _ _ (by simp) e0, hcell _ _ (by simp) e1, hcell _ _ (by simp) e2, ?_⟩
  have eg : ((Ls v).map (size Ls f)).getD i 0 = size Ls f ((Ls v).getD i 0) := by
    simp [List.getD_eq_getElem?_getD, List.getElem?_eq_getElem (show i < (Ls v).length by omega)]
  rw [eg]
  exact TreeFrom.later (by omega) (fun a u ha hc => hcell a u (by omega) hc) _ _ _ c3

theorem new3 (w : World) (a b c : Value) (t : TypeId) : ∀ j u, [a, b, c][j]? = some u → (w.alloc (.cells #[a, b, c] t)).cell? ((⟨w.heap.size, 0, none⟩ : Addr).add j) = some u :=
  fun j u h => World.news_of_block (heap_alloc_new w _) j u (by simpa using h)

theorem one3 (s : ByteArray) (k : Int) (ao : Option Addr) (l c : Nat) : ∀ u ∈ [Value.string s, .int .i64 k, .slice ao l c], u.oneCell' = true := by
  intro u hu
  simp at hu
  rcases hu with rfl | rfl | rfl <;> rfl

/-- The end of the call: the result's block has been written; nothing from block g on. -/
theorem fin3 {w wr : World} (a b c : Value) (hbel : Below w.heap.size w wr) :
    Below w.heap.size w (((wr.setCell ⟨w.heap.size, 0, none⟩ a).setCell ⟨w.heap.size, 1, none⟩ b).setCell ⟨w.heap.size, 2, none⟩ c) ∧
    ∀ x u, w.heap.size + 1 ≤ x.block → wr.cell? x = some u → (((wr.setCell ⟨w.heap.size, 0, none⟩ a).setCell ⟨w.heap.size, 1, none⟩ b).setCell ⟨w.heap.size, 2, none⟩ c).cell? x = some u := by
  refine ⟨((hbel.setCell (p := ⟨w.heap.size, 0, none⟩) (Nat.le_refl _) _).setCell (p := ⟨w.heap.size, 1, none⟩) (Nat.le_refl _) _).setCell (p := ⟨w.heap.size, 2, none⟩) (Nat.le_refl _) _, fun x u hx hc => ?_⟩
  rw [World.cell?_of_block (w := wr) ?_]
  · exact hc
  · rw [heap_setCell_other _ _ _ _ (by simp; omega), heap_setCell_other _ _ _ _ (by simp; omega), heap_setCell_other _ _ _ _ (by simp; omega)]

theorem leafFrom (w : World) (lo : Nat) (s : ByteArray) (k : Int) (d : Nat) (cap : Nat) (ao : Option Addr) : TreeFrom w lo (d + 1) (.agg #[.string s, .int .i64 k, .slice ao 0 cap]) 1 :=
  ⟨s, k, ao, 0, cap, [], rfl, rfl, by omega, rfl, fun h => absurd h (by omega)⟩

theorem inv_start {w w3 : World} {Ls : Nat → List Nat} {v f m : Nat} {s : ByteArray} {k : Int} {o1 : Obj}
    (hgr : (((w.alloc (.cells #[.string ByteArray.empty, .int .i64 0, .slice none 0 0] 27)).alloc o1).alloc (.cells #[.string s, .int .i64 k, .slice none 0 0] 27)).grownBy w3 none)
    (hown : w3.ownsRow (w.heap.size + 1 + 1 + 1) 27 3 (.slice (some ⟨w.heap.size + 1 + 1 + 1, 0, none⟩) 0 m) 0 []) :
    Below w.heap.size w w3 ∧ w3.heap[w.heap.size + 1 + 1]? = some (.cells #[.string s, .int .i64 k, .slice none 0 0] 27 (0, 0)) ∧
    Inv w Ls v f m (w.heap.size + 1 + 1) (w.heap.size + 1 + 1 + 1) s k 0 (w3.setCell ⟨w.heap.size + 1 + 1, 2, none⟩ (.slice (some ⟨w.heap.size + 1 + 1 + 1, 0, none⟩) 0 m)) := by
  have hb3 := below_of_grown hgr
  have hb : Below w.heap.size w w3 := ((((Below.refl _ _).alloc (Nat.le_refl _) _).alloc (by simp) _).alloc (by simp; omega) _).trans (hb3.mono (by simp; omega))
  have e2 : w3.heap[w.heap.size + 1 + 1]? = some (.cells #[.string s, .int .i64 k, .slice none 0 0] 27 (0, 0)) := by
    rw [hb3.block _ (by simp)]
    have := heap_alloc_new ((w.alloc (.cells #[.string ByteArray.empty, .int .i64 0, .slice none 0 0] 27)).alloc o1) (.cells #[.string s, .int .i64 k, .slice none 0 0] 27)
    simpa using this
  have e0 : w3.heap[w.heap.size]? = some (.cells #[.string ByteArray.empty, .int .i64 0, .slice none 0 0] 27 (0, 0)) := by
    rw [hb3.block _ (by simp; omega), Below.heap_alloc _ _ _ (by simp; omega), Below.heap_alloc _ _ _ (by simp)]
    exact heap_alloc_new _ _
  have hlt := (hown.lt _ rfl).2
  refine ⟨hb, e2, ?_, ?_, ?_, ?_, [], ?_, fun i hi => absurd hi (by omega)⟩
  · rw [heap_setCell_other _ _ _ _ (by simp; omega)]; exact e0
  · rw [heap_setCell_same _ _ _ _ _ _ e2]; simp
  · simpa [World.setCell] using hlt
  · exact hb.setCell (p := ⟨w.heap.size + 1 + 1, 2, none⟩) (by simp; omega) _
  · exact ownsRow_setCell_below hown (by simp) _

set_option maxHeartbeats 2000000 in
theorem build_any (K n cap0 len0 kcap : Nat) (ka : Option Addr) (Ls : Nat → List Nat) (hn : n = len0 + 1) (hn1 : len0 ≤ 1024) (hk : ∀ v c, c ∈ Ls v → v < c ∧ c < n) (hlen : ∀ v, (Ls v).length ≤ 1025) (f : Nat) :
    ∀ (v : Nat) (w : World), v < n → n - v ≤ f → KidsAt w K n Ls → BytesAt w ka len0 →
    Calls Yba.prog 6 #[.slice (some ⟨K, 0, none⟩) n cap0, .slice ka len0 kcap, .int .i64 v] w fun e w' => ∃ s k ao len cap, e = .returned (.agg #[.string s, .int .i64 k, .slice ao len cap]) ∧
      TreeFrom w' w.heap.size f (.agg #[.string s, .int .i64 k, .slice ao len cap]) (size Ls f v) ∧ Below w.heap.size w w' := by
  induction f with
  | zero => intro v w h1 h2; omega
  | succ f ih =>
    intro v w hv hf hK hB
    have IH := hide ih
    clear ih
    obtain ⟨kao, kcap', hkc, hkj⟩ := hK v hv
    have HKJ := hide hkj
    have HK := hide hK
    have HB := hide hB
    have HN := hide hn
    have HL := hide hk
    have hl := hlen v
    generalize hm : (Ls v).length = m at *
    have HM := hide hm
    clear hkj hK hB hn hk hm hlen
    have hK0 : K < w.heap.size := block_lt_of_cell hkc
    have hK1 : K < w.heap.size + 1 := by omega
    have hK2 : K < w.heap.size + 1 + 1 := by omega
    have hK3 : K < w.heap.size + 1 + 1 + 1 := by omega
    obtain ⟨i0, hi, hz0, hz1, hz2⟩ := info_parts info27
    obtain ⟨ids, hids⟩ : ∃ ids, (#[.string ⟨#[]⟩, .string ⟨#[97]⟩, .string ⟨#[116, 49]⟩, .string ⟨#[120]⟩] : Array Value)[v % 4]? = some (.string ids) := by
      have : v % 4 = 0 ∨ v % 4 = 1 ∨ v % 4 = 2 ∨ v % 4 = 3 := by omega
      rcases this with h | h | h | h <;> rw [h] <;> exact ⟨_, rfl⟩
    have hv1 : v ≤ 1024 := by have := HN.out; omega
    obtain ⟨z, kb, koff, hkb⟩ : ∃ (z : Int) (kb koff : Nat), v < 1 ∨ (0 < v ∧ v - 1 < len0 ∧ ka = some ⟨kb, koff, none⟩ ∧ w.cell? ⟨kb, koff + (v - 1), none⟩ = some (.int .u8 z) ∧ 0 ≤ z ∧ z ≤ 255) := by
      by_cases h : v < 1
      · exact ⟨0, 0, 0, .inl h⟩
      · have hlt : v - 1 < len0 := by have := HN.out; omega
        obtain ⟨b, off, z, h1, h2, h3⟩ := HB.out (v - 1) hlt
        exact ⟨z, b, off, .inr ⟨by omega, hlt, h1, h2, h3⟩⟩
    by_cases hm0 : m = 0
    · subst hm0
      have hsz : size Ls (f + 1) v = 1 := by
        have : Ls v = [] := List.eq_nil_of_length_eq_zero HM.out
        simp [size, this]
      have HS := hide hsz
      clear hsz
      rcases hkb with hv0 | ⟨hv0, hvl, rfl, hkz, hz3, hz4⟩
      · obtain rfl : v = 0 := by omega
        clear hids
        go_enter Yba.func6, Yba.ntmps6
        go_wp2_with fail
        refine bodyPost_ret (v := .agg #[.string ⟨#[]⟩, .int .i64 0, .slice none 0 0]) (by simp [results, Yba.results6, go_sem]) rfl ⟨_, _, _, _, _, rfl, ?_, ?_⟩
        · rw [HS.out]
          exact leafFrom _ _ _ _ _ _ _
        · exact (((Below.refl _ _).alloc (Nat.le_refl _) _).alloc (by simp) _).alloc (by simp; omega) _
      · have hb0 := block_lt_of_cell hkz
        have hb1 : kb < w.heap.size + 1 := by simp at hb0; omega
        have hb2 : kb < w.heap.size + 1 + 1 := by omega
        go_enter Yba.func6, Yba.ntmps6
        go_wp2_with fail
        refine bodyPost_ret (v := .agg #[.string ids, .int .i64 (z % 3), .slice none 0 0]) (by simp [results, Yba.results6, go_sem]) rfl ⟨_, _, _, _, _, rfl, ?_, ?_⟩
        · rw [HS.out]
          exact leafFrom _ _ _ _ _ _ _
        · exact (((Below.refl _ _).alloc (Nat.le_refl _) _).alloc (by simp) _).alloc (by simp; omega) _
    · have hm1 : 0 < m := by omega
      clear hm0
      rcases hkb with hv0 | ⟨hv0, hvl, rfl, hkz, hz3, hz4⟩
      · obtain rfl : v = 0 := by omega
        clear hids
        go_enter Yba.func6, Yba.ntmps6
        go_wp2_with (at_make; refine wpList_make_own _ rfl _ _ 25 rfl (w.heap.size + 1 + 1 + 1) 27 i0 _ 3 Yba.underlying25 hi hz0 hz1 _ _ _ m rfl rfl (by omega) (by rw [hz2]; omega) (by unfold maxLen; omega) (by simp) ?_)
        intro w3 hown3 hgr3
        obtain ⟨hb3, e2, hinv⟩ := inv_start (Ls := Ls) (v := 0) (f := f) hgr3 hown3
        have c2 : w3.cell? ⟨w.heap.size + 1 + 1, 2, none⟩ = some (.slice none 0 0) := by rw [cell_of_row _ _ _ _ _ _ e2]; rfl
        have f2 : w3.frozen? ⟨w.heap.size + 1 + 1, 2, none⟩ = false := frozen_of_row _ _ _ _ _ e2
        have k3 := cell_later hb3 hkc
        clear hown3 hgr3 e2 hkc
        go_wp2_with fail
        go_loopw [46] (fun i wr => ∃ j : Nat, j ≤ m ∧ i = .int .i64 j ∧ Inv w Ls 0 f m (w.heap.size + 1 + 1) (w.heap.size + 1 + 1 + 1) ⟨#[]⟩ 0 j wr) (fun i _ => m - (intOf i).toNat)
        case atStart => exact ⟨0, Nat.zero_le _, rfl, hinv⟩
        case round =>
          obtain ⟨j, hj, rfl, hI⟩ := hrel
          clear hinv c2 f2 k3 hb3
          by_cases hlt : j < m
          · obtain ⟨h0, h2, hsz, hbel, xs, hown, ht⟩ := hI
            obtain ⟨b, rfl, hc⟩ := HKJ.out j hlt
            have c1 := cell_later hbel hc
            have c2 : wr.cell? ⟨w.heap.size + 1 + 1, 2, none⟩ = some (.slice (some ⟨w.heap.size + 1 + 1 + 1, 0, none⟩) j m) := by rw [cell_of_row _ _ _ _ _ _ h2]; rfl
            have f2 : wr.frozen? ⟨w.heap.size + 1 + 1, 2, none⟩ = false := frozen_of_row _ _ _ _ _ h2
            have H0 := hide h0
            have H2 := hide h2
            have HT := hide ht
            have HO := hide hown
            have hch : 0 < (Ls 0).getD j 0 ∧ (Ls 0).getD j 0 < n := HL.out _ _ (by
              rw [List.getD_eq_getElem?_getD, List.getElem?_eq_getElem (by rw [HM.out]; exact hlt)]
              simp)
            have hkids := KidsAt.later HK.out hbel.drew
            have hbytes := BytesAt.later HB.out hbel.drew
            have HKK := hide hkids
            have HBB := hide hbytes
            clear hc h0 h2 ht hown hkids hbytes
            generalize hcc : (Ls 0).getD j 0 = c at *
            have HCC := hide hcc
            clear hcc
            go_wp2_with fail
            have hcf : n - c ≤ f := by omega
            go_region_law
              (first
                | (go_simp; go_at_call 6; refine (IH.out c wr.drew hch.2 hcf HKK.out HBB.out).mono ?_; rintro e w1 ⟨s', k', ao', len', cap', rfl, htree, hb0⟩; have hb1 : Below wr.heap.size wr w1 := (Below.refl wr.heap.size wr).drew.trans hb0; have c3 := cell_later hb1 c2; have f3 := (hb1.frozen (p := ⟨w.heap.size + 1 + 1, 2, none⟩) (show w.heap.size + 1 + 1 < wr.heap.size by omega)).trans f2; have hC1 : w.heap.size + 1 + 1 < w1.heap.size := by have := hb1.size; omega)
                | (refine step_fits _ (by rfl) _ _ _ (by rfl) (w.heap.size + 1 + 1 + 1) 27 i0 3 Yba.underlying25 hi hz1 (w.heap.size + 1 + 1 + 1) j m xs (by rfl) ((HO.out.kept (grown_of_below hb1 none) (by simp [Value.ownBlock])).alloc _) _ 1 1 [.string s', .int .i64 k', .slice ao' len' cap'] (by rfl) (by rfl) (new3 _ _ _ _ _) (one3 _ _ _ _ _) (by omega) ?_; intro w2 hown2 hgr2; obtain ⟨e4, hinv⟩ := inv_step (by omega) (by omega) H0.out H2.out hsz hbel HO.out HT.out hb1 (by rw [HCC.out]; exact htree) hown2 hgr2; have c4 : w2.cell? ⟨w.heap.size + 1 + 1, 2, none⟩ = some (.slice (some ⟨w.heap.size + 1 + 1 + 1, 0, none⟩) j m) := (cell_of_row _ _ _ _ _ _ e4).trans rfl; have f4 : w2.frozen? ⟨w.heap.size + 1 + 1, 2, none⟩ = false := frozen_of_row _ _ _ _ _ e4)
                | fail)
            all_goals
              clear c1 c2 c3 c4 f2 f3 f4 hown2 hgr2 htree hb0 hb1 e4 HT HO H0 H2 HKK HBB
              go_wp2_with fail
              go_roundw
              case rel => exact ⟨j + 1, by omega, by go_num, hinv⟩
              case measure => simp [intOf]; omega
          · obtain rfl : j = m := by omega
            have hI0 := hide hI
            obtain ⟨h0, h2, hsz, hbel, _⟩ := hI
            have d0 : wr.cell? ⟨w.heap.size + 1 + 1, 0, none⟩ = some (.string ⟨#[]⟩) := by rw [cell_of_row _ _ _ _ _ _ h2]; rfl
            have d1 : wr.cell? ⟨w.heap.size + 1 + 1, 1, none⟩ = some (.int .i64 0) := by rw [cell_of_row _ _ _ _ _ _ h2]; rfl
            have d2 : wr.cell? ⟨w.heap.size + 1 + 1, 2, none⟩ = some (.slice (some ⟨w.heap.size + 1 + 1 + 1, 0, none⟩) j j) := by rw [cell_of_row _ _ _ _ _ _ h2]; rfl
            have f0 : ∀ q, wr.frozen? ⟨w.heap.size, q, none⟩ = false := fun q => frozen_of_row _ _ _ _ _ h0
            have g0 : wr.cell? ⟨w.heap.size, 0, none⟩ = some (.string ByteArray.empty) := by rw [cell_of_row _ _ _ _ _ _ h0]; rfl
            have g1 : wr.cell? ⟨w.heap.size, 1, none⟩ = some (.int .i64 0) := by rw [cell_of_row _ _ _ _ _ _ h0]; rfl
            have g2 : wr.cell? ⟨w.heap.size, 2, none⟩ = some (.slice none 0 0) := by rw [cell_of_row _ _ _ _ _ _ h0]; rfl
            clear h0 h2
            go_wp2_with fail
            obtain ⟨hfb, hfc⟩ := fin3 (.string ⟨#[]⟩) (.int .i64 0) (.slice (some ⟨w.heap.size + 1 + 1 + 1, 0, none⟩) j j) hbel
            refine bodyPost_ret (v := .agg #[.string ⟨#[]⟩, .int .i64 0, .slice (some ⟨w.heap.size + 1 + 1 + 1, 0, none⟩) j j]) ?_ rfl ⟨_, _, _, _, _, rfl, ?_, ?_⟩
            · simp [results, Yba.results6, go_sem, g0, g1, g2]
            · exact inv_end (by omega) HM.out hl hI0.out (fun x u hx hc => hfc x u (by omega) hc)
            · exact hfb
      · have hb0 := block_lt_of_cell hkz
        have hb1 : kb < w.heap.size + 1 := by simp at hb0; omega
        have hb2 : kb < w.heap.size + 1 + 1 := by omega
        go_enter Yba.func6, Yba.ntmps6
        go_wp2_with (at_make; refine wpList_make_own _ rfl _ _ 25 rfl (w.heap.size + 1 + 1 + 1) 27 i0 _ 3 Yba.underlying25 hi hz0 hz1 _ _ _ m rfl rfl (by omega) (by rw [hz2]; omega) (by unfold maxLen; omega) (by simp) ?_)
        intro w3 hown3 hgr3
        obtain ⟨hb3, e2, hinv⟩ := inv_start (Ls := Ls) (v := v) (f := f) hgr3 hown3
        have c2 : w3.cell? ⟨w.heap.size + 1 + 1, 2, none⟩ = some (.slice none 0 0) := by rw [cell_of_row _ _ _ _ _ _ e2]; rfl
        have f2 : w3.frozen? ⟨w.heap.size + 1 + 1, 2, none⟩ = false := frozen_of_row _ _ _ _ _ e2
        have k3 := cell_later hb3 hkc
        clear hown3 hgr3 e2 hkc
        go_wp2_with fail
        go_loopw [46] (fun i wr => ∃ j : Nat, j ≤ m ∧ i = .int .i64 j ∧ Inv w Ls v f m (w.heap.size + 1 + 1) (w.heap.size + 1 + 1 + 1) ids (z % 3) j wr) (fun i _ => m - (intOf i).toNat)
        case atStart => exact ⟨0, Nat.zero_le _, rfl, hinv⟩
        case round =>
          obtain ⟨j, hj, rfl, hI⟩ := hrel
          clear hinv c2 f2 k3 hb3
          by_cases hlt : j < m
          · obtain ⟨h0, h2, hsz, hbel, xs, hown, ht⟩ := hI
            obtain ⟨b, rfl, hc⟩ := HKJ.out j hlt
            have c1 := cell_later hbel hc
            have c2 : wr.cell? ⟨w.heap.size + 1 + 1, 2, none⟩ = some (.slice (some ⟨w.heap.size + 1 + 1 + 1, 0, none⟩) j m) := by rw [cell_of_row _ _ _ _ _ _ h2]; rfl
            have f2 : wr.frozen? ⟨w.heap.size + 1 + 1, 2, none⟩ = false := frozen_of_row _ _ _ _ _ h2
            have H0 := hide h0
            have H2 := hide h2
            have HT := hide ht
            have HO := hide hown
            have hch : v < (Ls v).getD j 0 ∧ (Ls v).getD j 0 < n := HL.out _ _ (by
              rw [List.getD_eq_getElem?_getD, List.getElem?_eq_getElem (by rw [HM.out]; exact hlt)]
              simp)
            have hkids := KidsAt.later HK.out hbel.drew
            have hbytes := BytesAt.later HB.out hbel.drew
            have HKK := hide hkids
            have HBB := hide hbytes
            clear hc h0 h2 ht hown hkids hbytes
            generalize hcc : (Ls v).getD j 0 = c at *
            have HCC := hide hcc
            clear hcc
            go_wp2_with fail
            have hcf : n - c ≤ f := by omega
            go_region_law
              (first
                | (go_simp; go_at_call 6; refine (IH.out c wr.drew hch.2 hcf HKK.out HBB.out).mono ?_; rintro e w1 ⟨s', k', ao', len', cap', rfl, htree, hbd⟩; have hbw : Below wr.heap.size wr w1 := (Below.refl wr.heap.size wr).drew.trans hbd; have c3 := cell_later hbw c2; have f3 := (hbw.frozen (p := ⟨w.heap.size + 1 + 1, 2, none⟩) (show w.heap.size + 1 + 1 < wr.heap.size by omega)).trans f2; have hC1 : w.heap.size + 1 + 1 < w1.heap.size := by have := hbw.size; omega)
                | (refine step_fits _ (by rfl) _ _ _ (by rfl) (w.heap.size + 1 + 1 + 1) 27 i0 3 Yba.underlying25 hi hz1 (w.heap.size + 1 + 1 + 1) j m xs (by rfl) ((HO.out.kept (grown_of_below hbw none) (by simp [Value.ownBlock])).alloc _) _ 1 1 [.string s', .int .i64 k', .slice ao' len' cap'] (by rfl) (by rfl) (new3 _ _ _ _ _) (one3 _ _ _ _ _) (by omega) ?_; intro w2 hown2 hgr2; obtain ⟨e4, hinv⟩ := inv_step (by omega) (by omega) H0.out H2.out hsz hbel HO.out HT.out hbw (by rw [HCC.out]; exact htree) hown2 hgr2; have c4 : w2.cell? ⟨w.heap.size + 1 + 1, 2, none⟩ = some (.slice (some ⟨w.heap.size + 1 + 1 + 1, 0, none⟩) j m) := (cell_of_row _ _ _ _ _ _ e4).trans rfl; have f4 : w2.frozen? ⟨w.heap.size + 1 + 1, 2, none⟩ = false := frozen_of_row _ _ _ _ _ e4)
                | fail)
            all_goals
              clear c1 c2 c3 c4 f2 f3 f4 hown2 hgr2 htree hbd hbw e4 HT HO H0 H2 HKK HBB
              go_wp2_with fail
              go_roundw
              case rel => exact ⟨j + 1, by omega, by go_num, hinv⟩
              case measure => simp [intOf]; omega
          · obtain rfl : j = m := by omega
            have hI0 := hide hI
            obtain ⟨h0, h2, hsz, hbel, _⟩ := hI
            have d0 : wr.cell? ⟨w.heap.size + 1 + 1, 0, none⟩ = some (.string ids) := by rw [cell_of_row _ _ _ _ _ _ h2]; rfl
            have d1 : wr.cell? ⟨w.heap.size + 1 + 1, 1, none⟩ = some (.int .i64 (z % 3)) := by rw [cell_of_row _ _ _ _ _ _ h2]; rfl
            have d2 : wr.cell? ⟨w.heap.size + 1 + 1, 2, none⟩ = some (.slice (some ⟨w.heap.size + 1 + 1 + 1, 0, none⟩) j j) := by rw [cell_of_row _ _ _ _ _ _ h2]; rfl
            have f0 : ∀ q, wr.frozen? ⟨w.heap.size, q, none⟩ = false := fun q => frozen_of_row _ _ _ _ _ h0
            have g0 : wr.cell? ⟨w.heap.size, 0, none⟩ = some (.string ByteArray.empty) := by rw [cell_of_row _ _ _ _ _ _ h0]; rfl
            have g1 : wr.cell? ⟨w.heap.size, 1, none⟩ = some (.int .i64 0) := by rw [cell_of_row _ _ _ _ _ _ h0]; rfl
            have g2 : wr.cell? ⟨w.heap.size, 2, none⟩ = some (.slice none 0 0) := by rw [cell_of_row _ _ _ _ _ _ h0]; rfl
            clear h0 h2
            go_wp2_with fail
            obtain ⟨hfb, hfc⟩ := fin3 (.string ids) (.int .i64 (z % 3)) (.slice (some ⟨w.heap.size + 1 + 1 + 1, 0, none⟩) j j) hbel
            refine bodyPost_ret (v := .agg #[.string ids, .int .i64 (z % 3), .slice (some ⟨w.heap.size + 1 + 1 + 1, 0, none⟩) j j]) ?_ rfl ⟨_, _, _, _, _, rfl, ?_, ?_⟩
            · simp [results, Yba.results6, go_sem, g0, g1, g2]
            · exact inv_end (by omega) HM.out hl hI0.out (fun x u hx hc => hfc x u (by omega) hc)
            · exact hfb

end Go.Proofs.Ybulkmvg.Build
