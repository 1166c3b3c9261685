/-
  What 'zzs0670cbuild' lays.
-/
import Derived.Test.YbulkmvuIs
import Derived.Test.YbulkmvuDrain
import Derived.Test.YbulkmvuScript
namespace Go.Proofs.Ybulkmvu.Irmb
open Go.RowKit Go.Proofs.Ybulkmvu.Ev Go.Proofs.Ybulkmvu.Queue

theorem info63 : (Yba.prog.info? 63).map (fun i => (i.zero, i.size, i.bytes)) = some (some (.agg #[.int .u64 0, .slice none 0 0]), 2, 32) := by kernel_rfl
theorem info61 : (Yba.prog.info? 61).map (fun i => (i.zero, i.size, i.bytes)) = some (some (.int .u16 0), 1, 2) := by kernel_rfl
theorem hi63 : (Yba.prog.info? 63).map (·.size) = some 2 := by kernel_rfl

/-- The offsets that came in: m slices. -/
def OffsIn (w : World) (a : Option Addr) (m : Nat) (sl : Nat → Option Addr) (ln cp : Nat → Nat) (os : Nat → Nat → Int) : Prop :=
  ∃ b off, (0 < m → a = some ⟨b, off, none⟩ ∧ b < w.heap.size) ∧ ∀ j, j < m → w.cell? ⟨b, off + j, none⟩ = some (.slice (sl j) (ln j) (cp j)) ∧
    (sl j = none ∧ ln j = 0 ∧ cp j = 0 ∨ ∃ x, sl j = some x) ∧ ln j ≤ 1024 ∧ RowAt .u16 w (fun _ => True) (sl j) (ln j) (os j)

/-- The entries of a buffer: n of them, in blocks of P. -/
def BufAt (w : World) (P : Nat → Prop) (v : Value) (n c : Nat) (bs : Nat → Int) (ln : Nat → Nat) (os : Nat → Nat → Int) : Prop :=
  ∃ eb cs, v = .slice (some ⟨eb, 0, none⟩) n c ∧ P eb ∧ w.heap[eb]? = some (.cells cs 63 (0, 0)) ∧ n ≤ c ∧ cs.size = c * 2 ∧
    ∀ i, i < n → ∃ s k, cs[i * 2]? = some (.int .u64 (bs i)) ∧ cs[i * 2 + 1]? = some (.slice s (ln i) k) ∧ RowAt .u16 w (fun b => P b ∧ b ≠ eb) s (ln i) (os i)

/-- Midway through the build: k entries laid in the row eb. -/
def Mid (w wr : World) (n k : Nat) (bs : Nat → Int) (ln : Nat → Nat) (os : Nat → Nat → Int) : Prop :=
  ∃ cs, wr.heap[w.heap.size]? = some (.cells cs 63 (0, 0)) ∧ cs.size = n * 2 ∧ Below w.heap.size w wr ∧
    ∀ i, i < k → ∃ s c, cs[i * 2]? = some (.int .u64 (bs i)) ∧ cs[i * 2 + 1]? = some (.slice s (ln i) c) ∧ RowAt .u16 wr (fun b => w.heap.size ≤ b ∧ b ≠ w.heap.size) s (ln i) (os i)

theorem RowAt.same {k : IntKind} {w w' : World} {P Q : Nat → Prop} {a : Option Addr} {n : Nat} {z : Nat → Int} (h : RowAt k w P a n z) (hq : ∀ b, P b → b < w.heap.size → Q b ∧ w'.heap[b]? = w.heap[b]?) (hs : w.heap.size ≤ w'.heap.size) : RowAt k w' Q a n z := by
  obtain ⟨b, off, h1, h2⟩ := h
  refine ⟨b, off, fun h0 => ?_, fun j hj => ?_⟩
  · obtain ⟨e, p, l⟩ := h1 h0
    exact ⟨e, (hq b p l).1, by omega⟩
  · obtain ⟨e, p, l⟩ := h1 (by omega)
    rw [World.cell?_of_block (w := w) (hq b p l).2]
    exact h2 j hj

theorem mid_start {w w2 : World} {n : Nat} {bs : Nat → Int} {ln : Nat → Nat} {os : Nat → Nat → Int} {z : List Value} (ho : w2.ownsRow w.heap.size 63 2 (.slice (some ⟨w.heap.size, 0, none⟩) n n) n z) (hg : w.grownBy w2 none) : Mid w w2 n 0 bs ln os := by
  rcases ho.2 with h | ⟨g, cap, cur, hv, hb, hh, hc, hm, hsz, ht⟩
  · simp at h
  · simp only [Value.slice.injEq, Option.some.injEq, Addr.mk.injEq] at hv
    obtain ⟨⟨rfl, -, -⟩, -, rfl⟩ := hv
    exact ⟨cur, hh, hsz, ⟨hg.os, hg.tape, hg.output, hg.size, fun k hk => hg.block k hk (by simp)⟩, fun i hi => absurd hi (by omega)⟩

/-- One more entry. -/
theorem mid_step {w wr wx : World} {n k : Nat} {bs : Nat → Int} {ln : Nat → Nat} {os : Nat → Nat → Int} (h : Mid w wr n k bs ln os) (hk : k < n) (hx : Below wr.heap.size wr wx) {s : Option Addr} {c : Nat} (hr : RowAt .u16 wx (fun b => wr.heap.size ≤ b) s (ln k) (os k)) :
    wx.there w.heap.size (k * 2) 2 ∧ Mid w (wx.setCells w.heap.size (k * 2) [.int .u64 (bs k), .slice s (ln k) c]) n (k + 1) bs ln os := by
  obtain ⟨cs, h1, h2, h3, h4⟩ := h
  have hlt := lt_of_block h1
  have h1x : wx.heap[w.heap.size]? = some (.cells cs 63 (0, 0)) := (hx.block _ hlt).trans h1
  have hfr := setCells_frame [.int .u64 (bs k), .slice s (ln k) c] wx w.heap.size (k * 2)
  have hot : ∀ q, q ≠ w.heap.size → (wx.setCells w.heap.size (k * 2) [.int .u64 (bs k), .slice s (ln k) c]).heap[q]? = wx.heap[q]? := fun q hq => setCells_other _ _ _ _ _ hq
  refine ⟨fun j hj => ⟨by rw [cell_of_row _ _ _ _ _ _ h1x, Array.getElem?_eq_getElem (by omega)]; rfl, frozen_of_row _ _ _ _ _ h1x⟩, _, Drain.setCells_arr _ _ _ _ _ _ h1x, ?_, ?_, ?_⟩
  · simp [Drain.setArr, h2]
  · exact (h3.trans (hx.mono h3.size)).trans ⟨hfr.1, hfr.2.1, hfr.2.2.1, by rw [hfr.2.2.2]; have := h3.size; have := hx.size; omega, fun q hq => hot q (by omega)⟩
  · intro i hi
    by_cases hik : i = k
    · subst hik
      refine ⟨s, c, ?_, ?_, ?_⟩
      · simp [Drain.setArr, Array.getElem?_setIfInBounds, h2]; omega
      · simp [Drain.setArr, Array.getElem?_setIfInBounds, h2]; omega
      · refine hr.same (fun b hb hbl => ⟨⟨by omega, by omega⟩, hot b (by omega)⟩) (by rw [hfr.2.2.2]; exact Nat.le_refl _)
    · obtain ⟨s', c', e1, e2, e3⟩ := h4 i (by omega)
      refine ⟨s', c', ?_, ?_, ?_⟩
      · simp only [Drain.setArr, Array.getElem?_setIfInBounds]; rw [if_neg (by omega), if_neg (by omega)]; exact e1
      · simp only [Drain.setArr, Array.getElem?_setIfInBounds]; rw [if_neg (by omega), if_neg (by omega)]; exact e2
      · refine e3.same (fun b hb hbl => ⟨hb, (hot b hb.2).trans (hx.block b hbl)⟩) (by rw [hfr.2.2.2]; exact hx.size)

theorem row_of_own {w : World} {base n : Nat} {v : Value} {z : Nat → Int} (h : w.ownsRow base 61 1 v n ((List.range n).map fun j => Value.int .u16 (z j))) : ∃ s c, v = .slice s n c ∧ RowAt .u16 w (fun b => base ≤ b) s n z := by
  rcases h.2 with ⟨rfl, rfl⟩ | ⟨g, cap, cur, rfl, hb, hh, hc, hm, hsz, ht⟩
  · exact ⟨none, 0, rfl, 0, 0, fun h => absurd h (by omega), fun j h => absurd h (by omega)⟩
  · refine ⟨_, _, rfl, g, 0, fun _ => ⟨rfl, hb, lt_of_block hh⟩, fun j hj => ?_⟩
    have h1 : (cur.toList.take (n * 1))[j]? = some (.int .u16 (z j)) := by rw [ht]; simp [hj]
    rw [List.getElem?_take] at h1
    rw [Nat.zero_add, cell_of_row _ _ _ _ _ _ hh]
    simpa [hj] using h1

/-- 'append' of nothing to nothing. -/
theorem wpList_append_nils {P : Program} (w : World) {ops : Array Oper} {rest : List Oper} {o : Oper} {a : Act} {Q : Exit → Act → World → Prop} (hgd : o.guard = none) (s x : Operand) (t e : TypeId) (i : TypeInfo)
    (ho : o.op = .call { callee := .builtin .append, args := #[s, x], argTypes := #[t, t] }) (ht : P.underlying t = some (.slice e)) (hi : P.info? e = some i) (hs : a.eval s = .slice none 0 0) (hx : a.eval x = .slice none 0 0)
    (h : wpList P ops Q rest (a.put o.dst (.slice none 0 0)) w) : wpList P ops Q (o :: rest) a w := by
  have hr : (Builtin.append_ #[t, t] o.type #[.slice none 0 0, .slice none 0 0]).run P w = .ok (.slice none 0 0) w := by
    simp [Builtin.append_, run_underlying ht, sizeOf, typeInfo, hi, Builtin.lenOf, Builtin.firstCells]
  refine wpList_plain hgd fun K hK' => ?_
  unfold Oper.wp
  simp [execOp, ho, resolve, invoke, builtin, hs, hx, hr, Result.andThen]
  exact hK' _ _ h

set_option maxRecDepth 100000 in
set_option maxHeartbeats 1000000 in
theorem build_any (w : World) (a0 oa : Option Addr) (n c0 m co : Nat) (bs : Nat → Int) (sl : Nat → Option Addr) (ln cp : Nat → Nat) (os : Nat → Nat → Int) (hn : n ≤ 1024) (hm : m ≤ 1024) (h0 : RowAt .u64 w (fun _ => True) a0 n bs) (h1 : OffsIn w oa m sl ln cp os) :
    Calls Yba.prog 11 #[.slice a0 n c0, .slice oa m co] w fun e w' => ∃ v, e = .returned v ∧ BufAt w' (fun b => w.heap.size ≤ b) v n n bs (fun j => if j < m then ln j else 0) os ∧ Below w.heap.size w w' := by
  obtain ⟨i63, hi, hz0, hz1, hz2⟩ := info_parts info63
  obtain ⟨i61, hj, hy0, hy1, hy2⟩ := info_parts info61
  have H0 := hide h0
  have H1 := hide h1
  clear h0 h1
  go_enter Yba.func11, Yba.ntmps11
  go_wp2_with (at_make; refine wpList_make_full _ rfl _ _ 59 rfl w.heap.size 63 i63 _ 2 Yba.underlying59 hi hz0 hz1 _ _ _ _ n rfl rfl (by omega) (by omega) (by rw [hz2]; omega) (by unfold maxLen; omega) (Nat.le_refl _) ?_; intro w2 ho2 hg2; have HO2 := hide ho2; have HG2 := hide hg2; clear ho2 hg2)
  have HM := hide (mid_start (bs := bs) (ln := fun j => if j < m then ln j else 0) (os := os) HO2.out HG2.out)
  clear HO2 HG2
  go_loopw [13] (fun jv wr => ∃ (k : Nat), jv = .int .i64 k ∧ k ≤ n ∧ Mid w wr n k bs (fun j => if j < m then ln j else 0) os) (fun jv _ => n - (intOf jv).toNat)
  case atStart => exact ⟨0, rfl, by omega, HM.out⟩
  case round =>
    obtain ⟨k, rfl, hk, hmid⟩ := hrel
    have HMD := hide hmid
    have hbw : Below w.heap.size w wr := by obtain ⟨_, _, _, h, _⟩ := hmid; exact h
    have HBW := hide hbw
    clear hmid hbw HM
    by_cases hlt : k < n
    · obtain ⟨b, off, ha, hc⟩ := H0.out
      obtain ⟨rfl, -, hbl⟩ := ha (by omega)
      have c0' : wr.cell? ⟨b, off + k, none⟩ = some (.int .u64 (bs k)) := (HBW.out.cell hbl).trans (hc k hlt)
      clear ha hc hbl
      by_cases hkm : k < m
      · obtain ⟨ob, ooff, ha, hc⟩ := H1.out
        obtain ⟨rfl, hol⟩ := ha (by omega)
        obtain ⟨hc1, hc2, hc3, hc4⟩ := hc k hkm
        have c1 : wr.cell? ⟨ob, ooff + k, none⟩ = some (.slice (sl k) (ln k) (cp k)) := (HBW.out.cell hol).trans hc1
        clear ha hc hol hc1
        rcases hc2 with ⟨e1, e2, e3⟩ | ⟨x, hx⟩
        · rw [e1, e2, e3] at c1
          have hl0 : (if k < m then ln k else 0) = 0 := by rw [if_pos hkm, e2]
          have ⟨ht, hst⟩ := mid_step (c := 0) (s := none) HMD.out hlt (Below.refl _ _) (by rw [hl0]; exact ⟨0, 0, fun h => absurd h (by omega), fun j h => absurd h (by omega)⟩)
          rw [hl0] at hst
          have HT := hide ht
          have HST := hide hst
          clear hc3 hc4 e1 e2 e3 ht hst
          go_wp2_with (first | (refine wpList_append_nils _ rfl _ (.tmp 23) 52 61 i61 rfl Yba.underlying52 hj rfl rfl ?_) | (refine Pop.wpList_store_stop rfl 63 (.tmp 33) (.tmp 32) rfl ?_) | fail)
          refine ⟨1, rfl, ?_⟩
          refine Pop.wpList_store_at rfl 63 (.tmp 33) (.tmp 32) rfl w.heap.size (k * 2) 2 [.int .u64 (bs k), .slice none 0 0] rfl ?hx ?hy ?hi ?h1 ?ht ?_
          case hx => rfl
          case hy => rfl
          case hi => exact hi63
          case h1 => simp [Value.oneCell']
          case ht => exact HT.out
          generalize wr.setCells _ _ _ = wz at HST
          go_wp2_with fail
          go_roundw
          case rel => exact ⟨k + 1, by go_num, by omega, HST.out⟩
          case measure => simp [intOf]; omega
        · rw [hx] at c1 hc4
          obtain ⟨xb, xoff, hxa, hxc⟩ := hc4
          have hnews : ∀ j u, ((List.range (ln k)).map fun j => Value.int .u16 (os k j))[j]? = some u → wr.cell? (x.add j) = some u := by
            intro j u hu
            have hj' : j < ln k := by have := (List.getElem?_eq_some_iff.1 hu).1; simpa using this
            obtain ⟨e, -, hl⟩ := hxa (by omega)
            simp only [Option.some.injEq] at e
            subst e
            simp [hj'] at hu
            subst hu
            rw [Addr.add_lit, HBW.out.cell hl]
            exact hxc j hj'
          have HN := hide hnews
          have HC3 := hide hc3
          have hlk : ln k ≤ 1024 := hc3
          clear hc3 hxa hxc hnews hx
          go_wp2_with (first | (refine Script.wpList_append_stop rfl _ (.tmp 23) 52 rfl ?_) | fail)
          refine ⟨1, rfl, ?_⟩
          refine wpList_append_own _ rfl _ (.tmp 23) 52 rfl wr.heap.size 61 i61 _ 1 2 Yba.underlying52 hj hy0 hy1 hy2 rfl (by omega) (.slice none 0 0) 0 [] rfl (World.ownsRow_nil _ _ _ _) x (ln k) (cp k) ((List.range (ln k)).map fun j => Value.int .u16 (os k j)) ?hx ?hl HN.out ?h1 ?b1 ?b2 (Nat.le_refl _) ?_
          case hx => rfl
          case hl => simp
          case h1 => intro u hu; simp at hu; obtain ⟨j, _, rfl⟩ := hu; rfl
          case b1 => unfold maxLen; omega
          case b2 => omega
          intro v3 w3 ho3 hg3 _
          rw [Nat.zero_add, List.nil_append] at ho3
          obtain ⟨s3, c3, rfl, hr3⟩ := row_of_own ho3
          have hb3 : Below wr.heap.size wr w3 := ⟨hg3.os, hg3.tape, hg3.output, hg3.size, fun q hq => hg3.block q hq (by simp [Value.ownBlock])⟩
          have hl0 : (if k < m then ln k else 0) = ln k := if_pos hkm
          have ⟨ht, hst⟩ := mid_step (c := c3) (s := s3) HMD.out hlt hb3 (by rw [hl0]; exact hr3)
          rw [hl0] at hst
          have c0'' : w3.cell? ⟨b, off + k, none⟩ = some (.int .u64 (bs k)) := (hb3.cell (World.block_lt_of_cell? _ _ c0')).trans c0'
          have HT := hide ht
          have HST := hide hst
          clear ho3 hg3 hr3 hb3 ht hst c0' c1 HN
          go_wp2_with (first | (refine Pop.wpList_store_stop rfl 63 (.tmp 33) (.tmp 32) rfl ?_) | fail)
          refine ⟨1, rfl, ?_⟩
          refine Pop.wpList_store_at rfl 63 (.tmp 33) (.tmp 32) rfl w.heap.size (k * 2) 2 [.int .u64 (bs k), .slice s3 (ln k) c3] rfl ?hx ?hy ?hi ?h1 ?ht ?_
          case hx => rfl
          case hy => rfl
          case hi => exact hi63
          case h1 => simp [Value.oneCell']
          case ht => exact HT.out
          generalize w3.setCells _ _ _ = wz at HST
          go_wp2_with fail
          go_roundw
          case rel => exact ⟨k + 1, by go_num, by omega, HST.out⟩
          case measure => simp [intOf]; omega
      · have hl0 : (if k < m then ln k else 0) = 0 := by rw [if_neg hkm]
        have ⟨ht, hst⟩ := mid_step (c := 0) (s := none) HMD.out hlt (Below.refl _ _) (by rw [hl0]; exact ⟨0, 0, fun h => absurd h (by omega), fun j h => absurd h (by omega)⟩)
        rw [hl0] at hst
        have HT := hide ht
        have HST := hide hst
        clear ht hst
        go_wp2_with (first | (refine Pop.wpList_store_stop rfl 63 (.tmp 33) (.tmp 32) rfl ?_) | fail)
        refine ⟨1, rfl, ?_⟩
        refine Pop.wpList_store_at rfl 63 (.tmp 33) (.tmp 32) rfl w.heap.size (k * 2) 2 [.int .u64 (bs k), .slice none 0 0] rfl ?hx ?hy ?hi ?h1 ?ht ?_
        case hx => rfl
        case hy => rfl
        case hi => exact hi63
        case h1 => simp [Value.oneCell']
        case ht => exact HT.out
        generalize wr.setCells _ _ _ = wz at HST
        go_wp2_with fail
        go_roundw
        case rel => exact ⟨k + 1, by go_num, by omega, HST.out⟩
        case measure => simp [intOf]; omega
    · clear H0 H1
      go_wp2_with fail
      go_ret
      obtain ⟨cs, m1, m2, m3, m4⟩ := HMD.out
      obtain rfl : k = n := by omega
      exact ⟨_, rfl, ⟨w.heap.size, cs, rfl, Nat.le_refl _, m1, Nat.le_refl _, m2, m4⟩, m3⟩
end Go.Proofs.Ybulkmvu.Irmb
