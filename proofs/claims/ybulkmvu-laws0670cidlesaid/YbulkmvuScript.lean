/-
  'LawS0670BScript': the walk.
-/
import Derived.Test.YbulkmvuCheck
namespace Go.Proofs.Ybulkmvu.Script
open Go.RowKit Go.Proofs.Ybulkmvu.Ev Go.Proofs.Ybulkmvu.Heap Go.Proofs.Ybulkmvu.Queue Go.Proofs.Ybulkmvu.Model Go.Proofs.Ybulkmvu.DrainPlain Go.Proofs.Ybulkmvu.Check

theorem info4 : (Yba.prog.info? 4).map (fun i => (i.zero, i.size, i.bytes)) = some (some (.bool false), 1, 1) := by kernel_rfl

/-- One step of a script. -/
structure Op4 where
  op : Int
  t : Int
  st : Int
  cu : Int

def opCells (o : Op4) : List Value := [.int .u8 o.op, .int .i64 o.t, .int .u8 o.st, .int .i64 o.cu]

/-- The script as it came in. -/
def InAt (w : World) (ka : Option Addr) (os : List Op4) : Prop := ∀ i o, os[i]? = some o → (0 ≤ o.op ∧ o.op ≤ 255) ∧ ∃ b off, ka = some ⟨b, off, none⟩ ∧ w.rangeAt b (off + i * 4) (opCells o)

/-- What holds between the steps of the script: L queued, E pushed so far, D gone. -/
def St (w : World) (MB GB c : Nat) (E L : List Ev) (D : Nat → Bool) (R : Option Nat) (wr : World) : Prop :=
  QAt w.heap.size w.heap.size R wr L (E.length : Int) ∧ Heap L ∧ ModelAt w.heap.size MB GB wr c E D ∧ Numbered E ∧ L.Perm (alive E D) ∧ R ≠ some MB ∧ R ≠ some GB ∧ Below w.heap.size w wr ∧ (∀ i, E.length ≤ i → D i = false) ∧ (∀ q, R = some q → w.heap.size ≤ q)

theorem alive_length (E : List Ev) (D : Nat → Bool) : (alive E D).length ≤ E.length := by
  unfold alive
  rw [List.length_map]
  have := List.length_filter_le (fun i => !D i) (List.range E.length)
  simpa using this

theorem numbered_snoc {E : List Ev} {e : Ev} (h : Numbered E) (he : e.seq = (E.length : Int)) : Numbered (E ++ [e]) := by
  intro i hi
  by_cases hl : i < E.length
  · rw [g_append_left E [e] i hl]; exact h i hl
  · have : i = E.length := by simp at hi; omega
    subst this
    have : g (E ++ [e]) E.length = e := by simp [g]
    rw [this, he]

theorem St.below {w wr wx : World} {MB GB c : Nat} {E L : List Ev} {D : Nat → Bool} {R : Option Nat} (h : St w MB GB c E L D R wr) (hb : Below wr.heap.size wr wx) : St w MB GB c E L D R wx := by
  obtain ⟨h1, h2, h3, h4, h5, h6, h7, h8, h9, h10⟩ := h
  exact ⟨h1.of_below hb, h2, h3.same (hb.block _ h3.lt.1) (hb.block _ h3.lt.2.1), h4, h5, h6, h7, h8.trans (hb.mono h8.size), h9, h10⟩

/-- Behind a push, the store of its number, and the two appends. -/
theorem St.push {w wr wx w2 wy w3 wz w4 : World} {MB GB c eb : Nat} {E L L' : List Ev} {D : Nat → Bool} {R R' : Option Nat} {e : Ev} {xs : List Value} (h : St w MB GB c E L D R wr) (hMQ : MB ≠ w.heap.size) (hGQ : GB ≠ w.heap.size) (hx : Below wr.heap.size wr wx)
    (he : e.seq = (E.length : Int)) (hq : QAt w.heap.size w.heap.size R' w2 L' ((E.length : Int) + 1)) (hh : Heap L') (hp : L'.Perm (L ++ [e])) (hk : Kq w.heap.size R wx w2) (hR : R' = R ∨ ∃ q, R' = some q ∧ wx.heap.size ≤ q)
    (heb : wr.heap.size ≤ eb) (heb2 : eb < wx.heap.size) (hy1 : ∀ k, k < w2.heap.size → k ≠ eb → wy.heap[k]? = w2.heap[k]?) (hy2 : wy.os = w2.os) (hy3 : wy.tape = w2.tape) (hy4 : wy.output = w2.output) (hy5 : w2.heap.size ≤ wy.heap.size)
    (hxs : wy.ownsRow w.heap.size 41 10 (.slice (some ⟨MB, 0, none⟩) E.length c) E.length xs) (hrow : Row xs E)
    (ho3 : w3.ownsRow w.heap.size 41 10 (.slice (some ⟨MB, 0, none⟩) (E.length + 1) c) (E.length + 1) (xs ++ evCells e)) (hg3 : wy.grownBy w3 (some MB)) (hz : Below w3.heap.size w3 wz)
    (ho4 : w4.ownsRow w.heap.size 4 1 (.slice (some ⟨GB, 0, none⟩) (E.length + 1) c) (E.length + 1) (((List.range E.length).map fun i => Value.bool (D i)) ++ [.bool false])) (hg4 : wz.grownBy w4 (some GB)) :
    St w MB GB c (E ++ [e]) L' D R' w4 := by
  obtain ⟨h1, h2, h3, h4, h5, h6, h7, h8, h9, h10⟩ := h
  have hne := h3.ne
  have sx := hx.size
  have s2 := hk.size
  have s3 := hg3.size
  have sz := hz.size
  have s4 := hg4.size
  have lM := h3.lt.1
  have lG := h3.lt.2.1
  have hR'M : R' ≠ some MB := by
    rcases hR with rfl | ⟨q, rfl, hq⟩
    · exact h6
    · intro e; simp only [Option.some.injEq] at e; omega
  have hR'G : R' ≠ some GB := by
    rcases hR with rfl | ⟨q, rfl, hq⟩
    · exact h7
    · intro e; simp only [Option.some.injEq] at e; omega
  have hRB : ∀ q, R' = some q → w.heap.size ≤ q := by
    rcases hR with rfl | ⟨q, rfl, hq⟩
    · exact h10
    · intro q' e; simp only [Option.some.injEq] at e; have := h8.size; omega
  -- a block of w2 that is neither eb, MB nor GB
  have tail : ∀ k, k < w2.heap.size → k ≠ eb → k ≠ MB → k ≠ GB → w4.heap[k]? = w2.heap[k]? := fun k hk e1 e2 e3 => by
    rw [hg4.block k (by omega) (by simpa using e3), hz.block k (by omega), hg3.block k (by omega) (by simpa using e2), hy1 k hk e1]
  have hQl : w.heap.size < w2.heap.size := by obtain ⟨_, _, _, h, _⟩ := hq; exact lt_of_block h
  have hRl : ∀ q, R' = some q → q < w2.heap.size := by
    intro q e
    obtain ⟨ao, cap, ys, -, ho, -, hO, -⟩ := hq
    exact (ho.lt q (by rw [hO, e])).2
  have hReb : ∀ q, R' = some q → q ≠ eb := by
    intro q e
    rcases hR with rfl | ⟨q', rfl, hq'⟩
    · obtain ⟨ao, cap, ys, -, ho, -, hO, -⟩ := h1
      have := (ho.lt q (by rw [hO, e])).2
      omega
    · simp only [Option.some.injEq] at e; omega
  have hwr := h8.size
  have hQwr : w.heap.size < wr.heap.size := by obtain ⟨_, _, _, h, _⟩ := h1; exact lt_of_block h
  refine ⟨?_, hh, ?_, numbered_snoc h4 he, alive_push h5 (h9 _ (Nat.le_refl _)) hp, hR'M, hR'G, ?_, ?_, hRB⟩
  · have : ((E ++ [e]).length : Int) = (E.length : Int) + 1 := by simp
    rw [this]
    exact QAt_same hq (tail _ hQl (by omega) (fun e => hMQ e.symm) (fun e => hGQ e.symm)) (fun q e => tail q (hRl q e) (hReb q e) (fun e2 => hR'M (by rw [e, e2])) (fun e2 => hR'G (by rw [e, e2])))
  · have hl : (E ++ [e]).length = E.length + 1 := by simp
    refine ⟨xs ++ evCells e, ?_, row_snoc hxs.1 hrow, ?_⟩
    · rw [hl]
      exact (ho3.kept (row := none) ⟨hz.os, hz.tape, hz.output, hz.size, fun k hk _ => hz.block k hk⟩ (by simp [Value.ownBlock])).kept hg4 (by simpa [Value.ownBlock] using hne)
    · rw [hl, List.range_succ, List.map_append, List.map_singleton, h9 _ (Nat.le_refl _)]
      exact ho4
  · have b1 : Below w.heap.size w wx := h8.trans (hx.mono hwr)
    have b2 : Below w.heap.size wx w2 := hk.below (by omega) (Nat.le_refl _) h10
    refine (b1.trans b2).trans ⟨?_, ?_, ?_, by omega, fun k hk => tail k (by omega) (by omega) (by have := h3.lt.2.2.1; omega) (by have := h3.lt.2.2.2; omega)⟩
    · exact hg4.os.trans (hz.os.trans (hg3.os.trans hy2))
    · exact hg4.tape.trans (hz.tape.trans (hg3.tape.trans hy3))
    · exact hg4.output.trans (hz.output.trans (hg3.output.trans hy4))
  · intro i hi
    exact h9 i (by simp at hi; omega)

theorem st_start {w w2 w3 : World} {N : Nat}
    (ho2 : w2.ownsRow w.heap.size 41 10 (.slice (some ⟨w.heap.size + 1, 0, none⟩) 0 N) 0 []) (hg2 : (w.alloc (.cells #[.slice none 0 0, .int .u64 0] 27)).grownBy w2 none)
    (ho3 : w3.ownsRow w.heap.size 4 1 (.slice (some ⟨w2.heap.size, 0, none⟩) 0 N) 0 []) (hg3 : w2.grownBy w3 none) :
    w.heap.size + 1 < w2.heap.size ∧ St w (w.heap.size + 1) w2.heap.size N [] [] (fun _ => false) none w3 := by
  have hl : w.heap.size + 1 < w2.heap.size := (ho2.lt _ rfl).2
  have b2 : Below (w.alloc (.cells #[.slice none 0 0, .int .u64 0] 27)).heap.size (w.alloc (.cells #[.slice none 0 0, .int .u64 0] 27)) w2 := ⟨hg2.os, hg2.tape, hg2.output, hg2.size, fun k hk => hg2.block k hk (by simp)⟩
  have b3 : Below w2.heap.size w2 w3 := ⟨hg3.os, hg3.tape, hg3.output, hg3.size, fun k hk => hg3.block k hk (by simp)⟩
  refine ⟨hl, ⟨none, 0, [], ?_, World.ownsRow_nil _ _ _ _, fun i r v hi => absurd hi (by simp), rfl, by simp⟩, fun k _ hk => absurd hk (by simp), ⟨[], ?_, fun i r v hi => absurd hi (by simp), ho3⟩, fun i hi => absurd hi (by simp), List.Perm.refl _, by simp, by simp, ?_, fun _ _ => rfl, fun q h => by simp at h⟩
  · rw [b3.block _ (by omega), b2.block _ (by simp)]
    exact heap_alloc_new w _
  · exact ho2.kept hg3 (by simp [Value.ownBlock])
  · exact (((Below.refl _ _).alloc (Nat.le_refl _) _).trans (b2.mono (by simp))).trans (b3.mono (by omega))

theorem wpList_append_stop {P : Program} {ops : Array Oper} {rest : List Oper} {op : Oper} {a : Act} {w : World} {Q : Exit → Act → World → Prop} (_hgd : op.guard = none) (s x : Operand) (t : TypeId) (_ho : op.op = Op.call { callee := Callee.builtin Builtin.append, args := #[s, x], argTypes := #[t, t] })
    (h : ∃ n : Nat, n = 1 ∧ wpList P ops Q (op :: rest) a w) : wpList P ops Q (op :: rest) a w := h.elim fun _ h => h.2

set_option maxRecDepth 100000 in
set_option maxHeartbeats 2000000 in
theorem walk (ka : Option Addr) (cap : Nat) (os : List Op4) (w : World) (hN : os.length ≤ 1024) (hin : InAt w ka os) :
    Calls Yba.prog 3 #[.slice ka os.length cap] w fun e w' => e = .returned (.bool true) ∧ Below w.heap.size w w' := by
  obtain ⟨i41, hi, hz0, hz1, hz2⟩ := info_parts info41
  obtain ⟨i4, hj, hy0, hy1', hy2'⟩ := info_parts info4
  have HI := hide hin
  clear hin
  have tok1 : True := trivial
  go_enter Yba.func3, Yba.ntmps3
  go_wp2_with (first
    | (at_make; have _t := tok1; refine wpList_make_own _ rfl _ _ 24 rfl w.heap.size 41 i41 _ 10 Yba.underlying24 hi hz0 hz1 _ _ _ os.length rfl rfl (by omega) (by rw [hz2]; omega) (by unfold maxLen; omega) (by simp) ?_; intro w2 ho2 hg2; have HO2 := hide ho2; have HG2 := hide hg2; clear ho2 hg2 tok1)
    | (at_make; refine wpList_make_own _ rfl _ _ 28 rfl w.heap.size 4 i4 _ 1 Yba.underlying28 hj hy0 hy1' _ _ _ os.length rfl rfl (by omega) (by rw [hy2']; omega) (by unfold maxLen; omega) (by have := HG2.out.size; simp at this; omega) ?_; intro w3 ho3 hg3; have HO3 := hide ho3; have HG3 := hide hg3; clear ho3 hg3)
    | fail)
  have ho2 := HO2.out
  simp only [World.size_alloc] at ho2
  obtain ⟨h2lt, hst⟩ := st_start ho2 HG2.out HO3.out HG3.out
  have HST := hide hst
  clear hst ho2 HO2 HG2 HO3 HG3
  go_loopw [4, 5, 6, 7, 24] (fun mv gv av nv kv wr => ∃ (k : Nat) (E L : List Ev) (D : Nat → Bool) (R : Option Nat) (a : Int), kv = .int .i64 k ∧ k ≤ os.length ∧ E.length ≤ k ∧ mv = .slice (some ⟨w.heap.size + 1, 0, none⟩) E.length os.length ∧ gv = .slice (some ⟨w2.heap.size, 0, none⟩) E.length os.length ∧ av = .int .i64 a ∧ a = (L.length : Int) ∧ nv = .int .u64 (E.length : Int) ∧ St w (w.heap.size + 1) w2.heap.size os.length E L D R wr) (fun _ _ _ _ kv _ => os.length - (intOf kv).toNat)
  case atStart => exact ⟨0, [], [], fun _ => false, none, 0, rfl, Nat.zero_le _, Nat.le_refl _, rfl, rfl, rfl, rfl, rfl, HST.out⟩
  case round =>
    obtain ⟨k, E, L, D, R, a, rfl, hk, hEk, rfl, rfl, rfl, ha, rfl, hst⟩ := hrel
    have HA := hide ha
    have HS := hide hst
    have hLE : L.length ≤ E.length := by rw [hst.2.2.2.2.1.length_eq]; exact alive_length E D
    have hsz : w.heap.size < wr.heap.size := by obtain ⟨⟨_, _, _, h, _⟩, _⟩ := hst; exact lt_of_block h
    have HSz := hide hsz
    have ha0 : 0 ≤ a := by omega
    have ha1 : a ≤ 1024 := by omega
    clear ha hst HST
    by_cases hlt : k < os.length
    · obtain ⟨o, ho⟩ : ∃ o, os[k]? = some o := ⟨_, List.getElem?_eq_getElem hlt⟩
      obtain ⟨⟨hop0, hop1⟩, b, off, rfl, hr⟩ := HI.out k o ho
      have hbw := HS.out.2.2.2.2.2.2.2.1
      have c0 := cell_later hbw (hr 0 _ rfl)
      have c1 := cell_later hbw (hr 1 _ rfl)
      have c2 := cell_later hbw (hr 2 _ rfl)
      have c3 := cell_later hbw (hr 3 _ rfl)
      simp only [Nat.add_zero] at c0
      clear hr ho hbw
      have HQ := hide HS.out.1
      have HH := hide HS.out.2.1
      by_cases hA : o.op % 3 = 0 ∧ 0 < L.length
      · obtain ⟨hA1, hA2⟩ := hA
        obtain ⟨n, hn⟩ : ∃ n, L.length = n + 1 := ⟨L.length - 1, by omega⟩
        have ha : a = (n : Int) + 1 := by rw [HA.out, hn]; simp
        subst ha
        have hop : (o.op % 3 == 0) = true := by simp [hA1]
        have HNL := hide hn
        have hnb : n ≤ 1100 := by omega
        clear hA1 hn
        go_wp2_with fail
        refine (len_int w.heap.size w.heap.size R _ L (E.length : Int) ((n : Int) + 1) ?hq (by rw [HNL.out]; simp)).mono ?_
        case hq => exact HQ.out.of_below ((Below.refl _ _).alloc (Nat.le_refl _) _)
        rintro e w5 ⟨rfl, hw5⟩
        rw [hw5]
        clear hw5
        go_wp2_with fail
        generalize hwx : wr.alloc _ = wx
        have hbx : Below wr.heap.size wr wx := by rw [← hwx]; exact (Below.refl _ _).alloc (Nat.le_refl _) _
        have hsx := HS.out.below hbx
        clear hwx hbx
        obtain ⟨q1, q2, q3, q4, q5, q6, q7, q8, q9, q10⟩ := hsx
        refine (check_any w.heap.size w.heap.size (w.heap.size + 1) w2.heap.size os.length R wx L E D (E.length : Int) n true q1 HNL.out hnb q2 q3 (by omega) q4 q5 (by omega) (by omega) q6 q7 (Nat.le_refl _) q8.size q10).mono ?_
        rintro e w6 ⟨rfl, L', D', r1, r2, r3, r4, r5, r6, r7⟩
        have hst6 : St w (w.heap.size + 1) w2.heap.size os.length E L' D' R w6 := ⟨r1, r3, r4, q4, r5, q6, q7, q8.trans r6, fun i hi => by rw [r7 i hi]; exact q9 i hi, q10⟩
        have H6 := hide hst6
        have HL6 := hide r2
        clear hst6 r1 r2 r3 r4 r5 r6 r7 q1 q2 q3 q4 q5 q6 q7 q8 q9 q10 c0 c1 c2 c3 hA2
        go_wp2_with fail
        go_roundw
        case rel => exact ⟨k + 1, E, L', D', R, (n : Int), by go_num, by omega, by omega, rfl, rfl, by go_num, by rw [HL6.out], rfl, H6.out⟩
        case measure => simp [intOf]; omega
      · have HA0 := hide hA
        clear hA
        by_cases hop3 : o.op % 3 = 0
        · obtain rfl : L = [] := by
            apply List.eq_nil_of_length_eq_zero
            apply Classical.byContradiction
            intro h
            exact HA0.out ⟨hop3, by omega⟩
          have hop : (o.op % 3 == 0) = true := by simp [hop3]
          clear hop3
          go_wp2_with fail
          refine (len_int w.heap.size w.heap.size R _ [] (E.length : Int) 0 ?hq rfl).mono ?_
          case hq => exact HQ.out.of_below ((Below.refl _ _).alloc (Nat.le_refl _) _)
          rintro e w5 ⟨rfl, hw5⟩
          rw [hw5]
          clear hw5
          go_wp2_with fail
          generalize hwx : (wr.alloc (.cells #[.int .u8 o.op, .int .i64 o.t, .int .u8 o.st, .int .i64 o.cu] 30)).alloc (.cells #[.int .i64 o.t, .int .u8 o.st, .int .u32 0, .int .i64 o.cu, .int .u64 0, .pointer none, .pointer none, .pointer none, .pointer none, .pointer none] 41) = wx
          have hbx : Below wr.heap.size wr wx := by rw [← hwx]; exact ((Below.refl _ _).alloc (Nat.le_refl _) _).alloc (by simp) _
          have hex : wx.heap[wr.heap.size + 1]? = some (.cells #[.int .i64 o.t, .int .u8 o.st, .int .u32 0, .int .i64 o.cu, .int .u64 0, .pointer none, .pointer none, .pointer none, .pointer none, .pointer none] 41 (0, 0)) := by rw [← hwx]; exact heap_alloc2_new wr _ _
          have hxl := lt_of_block hex
          refine (Push.push_any w.heap.size w.heap.size R wx [] (E.length : Int) 0 ⟨o.t, o.st, o.cu, 0⟩ (HQ.out.of_below hbx) (by have := HSz.out; omega) (by omega) (by omega) (by omega) HH.out).mono ?_
          rintro e w5 ⟨rfl, R', L', hq5, hh5, hp5, hk5, hn5⟩
          have hRw : ∀ q, R = some q → q < wr.heap.size := by
            intro q e
            obtain ⟨ao, cp, ys, -, ho', -, hO, -⟩ := HQ.out
            exact (ho'.lt q (by rw [hO, e])).2
          have he5 : w5.heap[wr.heap.size + 1]? = some (.cells #[.int .i64 o.t, .int .u8 o.st, .int .u32 0, .int .i64 o.cu, .int .u64 0, .pointer none, .pointer none, .pointer none, .pointer none, .pointer none] 41 (0, 0)) := (hk5.block _ hxl (by have := HSz.out; omega) (fun e => by have := hRw _ e.symm; omega)).trans hex
          have x0 : w5.cell? ⟨wr.heap.size + 1, 0, none⟩ = some (.int .i64 o.t) := by rw [cell_of_row _ _ _ _ _ _ he5]; rfl
          have x1 : w5.cell? ⟨wr.heap.size + 1, 1, none⟩ = some (.int .u8 o.st) := by rw [cell_of_row _ _ _ _ _ _ he5]; rfl
          have x2 : w5.cell? ⟨wr.heap.size + 1, 2, none⟩ = some (.int .u32 0) := by rw [cell_of_row _ _ _ _ _ _ he5]; rfl
          have x3 : w5.cell? ⟨wr.heap.size + 1, 3, none⟩ = some (.int .i64 o.cu) := by rw [cell_of_row _ _ _ _ _ _ he5]; rfl
          have x4 : w5.cell? ⟨wr.heap.size + 1, 4, none⟩ = some (.int .u64 0) := by rw [cell_of_row _ _ _ _ _ _ he5]; rfl
          have x5 : w5.cell? ⟨wr.heap.size + 1, 5, none⟩ = some (.pointer none) := by rw [cell_of_row _ _ _ _ _ _ he5]; rfl
          have x6 : w5.cell? ⟨wr.heap.size + 1, 6, none⟩ = some (.pointer none) := by rw [cell_of_row _ _ _ _ _ _ he5]; rfl
          have x7 : w5.cell? ⟨wr.heap.size + 1, 7, none⟩ = some (.pointer none) := by rw [cell_of_row _ _ _ _ _ _ he5]; rfl
          have x8 : w5.cell? ⟨wr.heap.size + 1, 8, none⟩ = some (.pointer none) := by rw [cell_of_row _ _ _ _ _ _ he5]; rfl
          have x9 : w5.cell? ⟨wr.heap.size + 1, 9, none⟩ = some (.pointer none) := by rw [cell_of_row _ _ _ _ _ _ he5]; rfl
          have fe : ∀ r, w5.frozen? ⟨wr.heap.size + 1, r, none⟩ = false := fun r => frozen_of_row _ _ _ _ _ he5
          have zl := lt_of_block he5
          have HBX := hide hbx
          have HQ5 := hide hq5
          have HH5 := hide hh5
          have HP5 := hide hp5
          have HK5 := hide hk5
          have HN5 := hide hn5
          have HE5 := hide he5
          have HXL := hide hxl
          clear hwx hex hbx hq5 hh5 hp5 hk5 hn5 he5 hxl hRw c0 c1 c2 c3
          have hEn : E.length ≤ 1024 := by omega
          go_wp2_with (first | (refine wpList_append_stop rfl (.tmp 59) (.tmp 61) 24 rfl ?_) | fail)
          refine ⟨1, rfl, ?_⟩
          obtain ⟨xs, hxs5, hrow5, hgo5⟩ : ModelAt w.heap.size (w.heap.size + 1) w2.heap.size w5 os.length E D := by
            have hmx := HS.out.2.2.1
            have h1 := hmx.same (HBX.out.block _ hmx.lt.1) (HBX.out.block _ hmx.lt.2.1)
            exact h1.same (HK5.out.block _ h1.lt.1 (by omega) (fun e => HS.out.2.2.2.2.2.1 e.symm)) (HK5.out.block _ h1.lt.2.1 (by omega) (fun e => HS.out.2.2.2.2.2.2.1 e.symm))
          have hneb := (HS.out.2.2.1).lt
          generalize hwy : (w5.setCell ⟨wr.heap.size + 1, 4, none⟩ (.int .u64 (E.length : Int))).alloc (.cells #[.int .i64 o.t, .int .u8 o.st, .int .u32 0, .int .i64 o.cu, .int .u64 (E.length : Int), .pointer none, .pointer none, .pointer none, .pointer none, .pointer none] 41) = wy
          have hs5 : (w5.setCell ⟨wr.heap.size + 1, 4, none⟩ (.int .u64 (E.length : Int))).heap.size = w5.heap.size := by simp [World.setCell]
          have hy1 : ∀ k, k < w5.heap.size → k ≠ wr.heap.size + 1 → wy.heap[k]? = w5.heap[k]? := fun k hk hne => by
            rw [← hwy, Below.heap_alloc _ _ _ (by omega), heap_setCell_other _ _ _ _ (by simpa using hne)]
          have hy2 : wy.os = w5.os ∧ wy.tape = w5.tape ∧ wy.output = w5.output ∧ w5.heap.size ≤ wy.heap.size := by
            rw [← hwy]; exact ⟨rfl, rfl, rfl, by simp [World.setCell]⟩
          have hxy : wy.ownsRow w.heap.size 41 10 (.slice (some ⟨w.heap.size + 1, 0, none⟩) E.length os.length) E.length xs := by
            rw [← hwy]; exact (ownsRow_setCell_other hxs5 (by simp [Value.ownBlock]; omega) _).alloc _
          have hgy : wy.ownsRow w.heap.size 4 1 (.slice (some ⟨w2.heap.size, 0, none⟩) E.length os.length) E.length ((List.range E.length).map fun i => Value.bool (D i)) := by
            rw [← hwy]; exact (ownsRow_setCell_other hgo5 (by simp [Value.ownBlock]; omega) _).alloc _
          have hnw : ∀ j u, (evCells ⟨o.t, o.st, o.cu, (E.length : Int)⟩)[j]? = some u → wy.cell? ((⟨w5.heap.size, 0, none⟩ : Addr).add j) = some u := by
            rw [← hwy]
            intro j u hu
            refine World.news_of_block (t := 41) (fr := (0, 0)) (cs := (evCells ⟨o.t, o.st, o.cu, (E.length : Int)⟩).toArray) ?_ j u (by simpa using hu)
            have := heap_alloc_new (w5.setCell ⟨wr.heap.size + 1, 4, none⟩ (.int .u64 (E.length : Int))) (.cells #[.int .i64 o.t, .int .u8 o.st, .int .u32 0, .int .i64 o.cu, .int .u64 (E.length : Int), .pointer none, .pointer none, .pointer none, .pointer none, .pointer none] 41)
            rw [hs5] at this
            exact this
          refine wpList_append_fits _ rfl (.tmp 59) (.tmp 61) 24 rfl w.heap.size 41 i41 10 Yba.underlying24 hi hz1 (w.heap.size + 1) E.length os.length xs ?hs ?hown ⟨w5.heap.size, 0, none⟩ 1 1 (evCells ⟨o.t, o.st, o.cu, (E.length : Int)⟩) ?hx ?hn ?hc ?h1c ?b1 ?_
          case hs => rfl
          case hown => exact hxy
          case hx => rfl
          case hn => rfl
          case hc => exact hnw
          case h1c => exact ev_one _
          case b1 => omega
          intro w6 ho6 hg6
          have HXY := hide hxy
          have HROW := hide hrow5
          have HGY := hide hgy
          have HY1 := hide hy1
          have HY2 := hide hy2
          have HO6 := hide ho6
          have HG6 := hide hg6
          clear hwy hs5 hy1 hy2 hxy hgy hnw ho6 hg6 hxs5 hrow5 hgo5 x0 x1 x2 x3 x4 x5 x6 x7 x8 x9 fe
          go_wp2_with (first | (refine wpList_append_stop rfl (.tmp 63) (.tmp 64) 28 rfl ?_) | fail)
          refine ⟨1, rfl, ?_⟩
          generalize hwz : w6.alloc (.cells #[.bool false] 4) = wz
          have hbz : Below w6.heap.size w6 wz := by rw [← hwz]; exact (Below.refl _ _).alloc (Nat.le_refl _) _
          have hgz : wz.ownsRow w.heap.size 4 1 (.slice (some ⟨w2.heap.size, 0, none⟩) E.length os.length) E.length ((List.range E.length).map fun i => Value.bool (D i)) := by
            rw [← hwz]; exact (HGY.out.kept HG6.out (by simp [Value.ownBlock]; omega)).alloc _
          have hnz : ∀ j u, [Value.bool false][j]? = some u → wz.cell? ((⟨w6.heap.size, 0, none⟩ : Addr).add j) = some u := by
            rw [← hwz]; exact cell_one_new _ _ _
          refine wpList_append_fits _ rfl (.tmp 63) (.tmp 64) 28 rfl w.heap.size 4 i4 1 Yba.underlying28 hj hy1' w2.heap.size E.length os.length ((List.range E.length).map fun i => Value.bool (D i)) ?hs ?hown ⟨w6.heap.size, 0, none⟩ 1 1 [.bool false] ?hx ?hn ?hc ?h1c ?b1 ?_
          case hs => rfl
          case hown => exact hgz
          case hx => rfl
          case hn => rfl
          case hc => exact hnz
          case h1c => intro u hu; simp at hu; subst hu; rfl
          case b1 => omega
          intro w7 ho7 hg7
          have hfin := St.push HS.out (by omega) (by omega) HBX.out (e := ⟨o.t, o.st, o.cu, (E.length : Int)⟩) rfl HQ5.out HH5.out HP5.out HK5.out HN5.out (by omega) HXL.out HY1.out HY2.out.1 HY2.out.2.1 HY2.out.2.2.1 HY2.out.2.2.2 HXY.out HROW.out HO6.out HG6.out hbz ho7 hg7
          have HF := hide hfin
          have HLn : Hid (L'.length = 0 + 1) := by have := HP5.out.length_eq; exact hide (by simpa using this)
          clear hwz hbz hgz hnz ho7 hg7 hfin HXY HROW HGY HY1 HY2 HO6 HG6
          go_wp2_with fail
          go_roundw
          case rel => exact ⟨k + 1, E ++ [⟨o.t, o.st, o.cu, (E.length : Int)⟩], L', D, R', a + 1, by go_num, by omega, by simp; omega, by simp, by simp, by go_num, by rw [HLn.out, HA.out]; simp, by simp, HF.out⟩
          case measure => simp [intOf]; omega
        · have hop : (o.op % 3 == 0) = false := by simpa using hop3
          clear hop3
          go_wp2_with fail
          generalize hwx : (wr.alloc (.cells #[.int .u8 o.op, .int .i64 o.t, .int .u8 o.st, .int .i64 o.cu] 30)).alloc (.cells #[.int .i64 o.t, .int .u8 o.st, .int .u32 0, .int .i64 o.cu, .int .u64 0, .pointer none, .pointer none, .pointer none, .pointer none, .pointer none] 41) = wx
          have hbx : Below wr.heap.size wr wx := by rw [← hwx]; exact ((Below.refl _ _).alloc (Nat.le_refl _) _).alloc (by simp) _
          have hex : wx.heap[wr.heap.size + 1]? = some (.cells #[.int .i64 o.t, .int .u8 o.st, .int .u32 0, .int .i64 o.cu, .int .u64 0, .pointer none, .pointer none, .pointer none, .pointer none, .pointer none] 41 (0, 0)) := by rw [← hwx]; exact heap_alloc2_new wr _ _
          have hxl := lt_of_block hex
          refine (Push.push_any w.heap.size w.heap.size R wx L (E.length : Int) 0 ⟨o.t, o.st, o.cu, 0⟩ (HQ.out.of_below hbx) (by have := HSz.out; omega) (by omega) (by omega) (by omega) HH.out).mono ?_
          rintro e w5 ⟨rfl, R', L', hq5, hh5, hp5, hk5, hn5⟩
          have hRw : ∀ q, R = some q → q < wr.heap.size := by
            intro q e
            obtain ⟨ao, cp, ys, -, ho', -, hO, -⟩ := HQ.out
            exact (ho'.lt q (by rw [hO, e])).2
          have he5 : w5.heap[wr.heap.size + 1]? = some (.cells #[.int .i64 o.t, .int .u8 o.st, .int .u32 0, .int .i64 o.cu, .int .u64 0, .pointer none, .pointer none, .pointer none, .pointer none, .pointer none] 41 (0, 0)) := (hk5.block _ hxl (by have := HSz.out; omega) (fun e => by have := hRw _ e.symm; omega)).trans hex
          have x0 : w5.cell? ⟨wr.heap.size + 1, 0, none⟩ = some (.int .i64 o.t) := by rw [cell_of_row _ _ _ _ _ _ he5]; rfl
          have x1 : w5.cell? ⟨wr.heap.size + 1, 1, none⟩ = some (.int .u8 o.st) := by rw [cell_of_row _ _ _ _ _ _ he5]; rfl
          have x2 : w5.cell? ⟨wr.heap.size + 1, 2, none⟩ = some (.int .u32 0) := by rw [cell_of_row _ _ _ _ _ _ he5]; rfl
          have x3 : w5.cell? ⟨wr.heap.size + 1, 3, none⟩ = some (.int .i64 o.cu) := by rw [cell_of_row _ _ _ _ _ _ he5]; rfl
          have x4 : w5.cell? ⟨wr.heap.size + 1, 4, none⟩ = some (.int .u64 0) := by rw [cell_of_row _ _ _ _ _ _ he5]; rfl
          have x5 : w5.cell? ⟨wr.heap.size + 1, 5, none⟩ = some (.pointer none) := by rw [cell_of_row _ _ _ _ _ _ he5]; rfl
          have x6 : w5.cell? ⟨wr.heap.size + 1, 6, none⟩ = some (.pointer none) := by rw [cell_of_row _ _ _ _ _ _ he5]; rfl
          have x7 : w5.cell? ⟨wr.heap.size + 1, 7, none⟩ = some (.pointer none) := by rw [cell_of_row _ _ _ _ _ _ he5]; rfl
          have x8 : w5.cell? ⟨wr.heap.size + 1, 8, none⟩ = some (.pointer none) := by rw [cell_of_row _ _ _ _ _ _ he5]; rfl
          have x9 : w5.cell? ⟨wr.heap.size + 1, 9, none⟩ = some (.pointer none) := by rw [cell_of_row _ _ _ _ _ _ he5]; rfl
          have fe : ∀ r, w5.frozen? ⟨wr.heap.size + 1, r, none⟩ = false := fun r => frozen_of_row _ _ _ _ _ he5
          have zl := lt_of_block he5
          have HBX := hide hbx
          have HQ5 := hide hq5
          have HH5 := hide hh5
          have HP5 := hide hp5
          have HK5 := hide hk5
          have HN5 := hide hn5
          have HE5 := hide he5
          have HXL := hide hxl
          clear hwx hex hbx hq5 hh5 hp5 hk5 hn5 he5 hxl hRw c0 c1 c2 c3
          have hEn : E.length ≤ 1024 := by omega
          go_wp2_with (first | (refine wpList_append_stop rfl (.tmp 59) (.tmp 61) 24 rfl ?_) | fail)
          refine ⟨1, rfl, ?_⟩
          obtain ⟨xs, hxs5, hrow5, hgo5⟩ : ModelAt w.heap.size (w.heap.size + 1) w2.heap.size w5 os.length E D := by
            have hmx := HS.out.2.2.1
            have h1 := hmx.same (HBX.out.block _ hmx.lt.1) (HBX.out.block _ hmx.lt.2.1)
            exact h1.same (HK5.out.block _ h1.lt.1 (by omega) (fun e => HS.out.2.2.2.2.2.1 e.symm)) (HK5.out.block _ h1.lt.2.1 (by omega) (fun e => HS.out.2.2.2.2.2.2.1 e.symm))
          have hneb := (HS.out.2.2.1).lt
          generalize hwy : (w5.setCell ⟨wr.heap.size + 1, 4, none⟩ (.int .u64 (E.length : Int))).alloc (.cells #[.int .i64 o.t, .int .u8 o.st, .int .u32 0, .int .i64 o.cu, .int .u64 (E.length : Int), .pointer none, .pointer none, .pointer none, .pointer none, .pointer none] 41) = wy
          have hs5 : (w5.setCell ⟨wr.heap.size + 1, 4, none⟩ (.int .u64 (E.length : Int))).heap.size = w5.heap.size := by simp [World.setCell]
          have hy1 : ∀ k, k < w5.heap.size → k ≠ wr.heap.size + 1 → wy.heap[k]? = w5.heap[k]? := fun k hk hne => by
            rw [← hwy, Below.heap_alloc _ _ _ (by omega), heap_setCell_other _ _ _ _ (by simpa using hne)]
          have hy2 : wy.os = w5.os ∧ wy.tape = w5.tape ∧ wy.output = w5.output ∧ w5.heap.size ≤ wy.heap.size := by
            rw [← hwy]; exact ⟨rfl, rfl, rfl, by simp [World.setCell]⟩
          have hxy : wy.ownsRow w.heap.size 41 10 (.slice (some ⟨w.heap.size + 1, 0, none⟩) E.length os.length) E.length xs := by
            rw [← hwy]; exact (ownsRow_setCell_other hxs5 (by simp [Value.ownBlock]; omega) _).alloc _
          have hgy : wy.ownsRow w.heap.size 4 1 (.slice (some ⟨w2.heap.size, 0, none⟩) E.length os.length) E.length ((List.range E.length).map fun i => Value.bool (D i)) := by
            rw [← hwy]; exact (ownsRow_setCell_other hgo5 (by simp [Value.ownBlock]; omega) _).alloc _
          have hnw : ∀ j u, (evCells ⟨o.t, o.st, o.cu, (E.length : Int)⟩)[j]? = some u → wy.cell? ((⟨w5.heap.size, 0, none⟩ : Addr).add j) = some u := by
            rw [← hwy]
            intro j u hu
            refine World.news_of_block (t := 41) (fr := (0, 0)) (cs := (evCells ⟨o.t, o.st, o.cu, (E.length : Int)⟩).toArray) ?_ j u (by simpa using hu)
            have := heap_alloc_new (w5.setCell ⟨wr.heap.size + 1, 4, none⟩ (.int .u64 (E.length : Int))) (.cells #[.int .i64 o.t, .int .u8 o.st, .int .u32 0, .int .i64 o.cu, .int .u64 (E.length : Int), .pointer none, .pointer none, .pointer none, .pointer none, .pointer none] 41)
            rw [hs5] at this
            exact this
          refine wpList_append_fits _ rfl (.tmp 59) (.tmp 61) 24 rfl w.heap.size 41 i41 10 Yba.underlying24 hi hz1 (w.heap.size + 1) E.length os.length xs ?hs ?hown ⟨w5.heap.size, 0, none⟩ 1 1 (evCells ⟨o.t, o.st, o.cu, (E.length : Int)⟩) ?hx ?hn ?hc ?h1c ?b1 ?_
          case hs => rfl
          case hown => exact hxy
          case hx => rfl
          case hn => rfl
          case hc => exact hnw
          case h1c => exact ev_one _
          case b1 => omega
          intro w6 ho6 hg6
          have HXY := hide hxy
          have HROW := hide hrow5
          have HGY := hide hgy
          have HY1 := hide hy1
          have HY2 := hide hy2
          have HO6 := hide ho6
          have HG6 := hide hg6
          clear hwy hs5 hy1 hy2 hxy hgy hnw ho6 hg6 hxs5 hrow5 hgo5 x0 x1 x2 x3 x4 x5 x6 x7 x8 x9 fe
          go_wp2_with (first | (refine wpList_append_stop rfl (.tmp 63) (.tmp 64) 28 rfl ?_) | fail)
          refine ⟨1, rfl, ?_⟩
          generalize hwz : w6.alloc (.cells #[.bool false] 4) = wz
          have hbz : Below w6.heap.size w6 wz := by rw [← hwz]; exact (Below.refl _ _).alloc (Nat.le_refl _) _
          have hgz : wz.ownsRow w.heap.size 4 1 (.slice (some ⟨w2.heap.size, 0, none⟩) E.length os.length) E.length ((List.range E.length).map fun i => Value.bool (D i)) := by
            rw [← hwz]; exact (HGY.out.kept HG6.out (by simp [Value.ownBlock]; omega)).alloc _
          have hnz : ∀ j u, [Value.bool false][j]? = some u → wz.cell? ((⟨w6.heap.size, 0, none⟩ : Addr).add j) = some u := by
            rw [← hwz]; exact cell_one_new _ _ _
          refine wpList_append_fits _ rfl (.tmp 63) (.tmp 64) 28 rfl w.heap.size 4 i4 1 Yba.underlying28 hj hy1' w2.heap.size E.length os.length ((List.range E.length).map fun i => Value.bool (D i)) ?hs ?hown ⟨w6.heap.size, 0, none⟩ 1 1 [.bool false] ?hx ?hn ?hc ?h1c ?b1 ?_
          case hs => rfl
          case hown => exact hgz
          case hx => rfl
          case hn => rfl
          case hc => exact hnz
          case h1c => intro u hu; simp at hu; subst hu; rfl
          case b1 => omega
          intro w7 ho7 hg7
          have hfin := St.push HS.out (by omega) (by omega) HBX.out (e := ⟨o.t, o.st, o.cu, (E.length : Int)⟩) rfl HQ5.out HH5.out HP5.out HK5.out HN5.out (by omega) HXL.out HY1.out HY2.out.1 HY2.out.2.1 HY2.out.2.2.1 HY2.out.2.2.2 HXY.out HROW.out HO6.out HG6.out hbz ho7 hg7
          have HF := hide hfin
          have HLn : Hid (L'.length = L.length + 1) := by have := HP5.out.length_eq; exact hide (by simpa using this)
          clear hwz hbz hgz hnz ho7 hg7 hfin HXY HROW HGY HY1 HY2 HO6 HG6
          go_wp2_with fail
          go_roundw
          case rel => exact ⟨k + 1, E ++ [⟨o.t, o.st, o.cu, (E.length : Int)⟩], L', D, R', a + 1, by go_num, by omega, by simp; omega, by simp, by simp, by go_num, by rw [HLn.out, HA.out]; simp, by simp, HF.out⟩
          case measure => simp [intOf]; omega
    · have hke : k = os.length := by omega
      subst hke
      clear hlt
      go_wp2_with fail
      go_loopw [6] (fun av wq => ∃ (L : List Ev) (D : Nat → Bool) (a : Int), av = .int .i64 a ∧ a = (L.length : Int) ∧ L.length ≤ E.length ∧ St w (w.heap.size + 1) w2.heap.size os.length E L D R wq) (fun av _ => (intOf av).toNat)
      case atStart => exact ⟨L, D, a, rfl, HA.out, by omega, HS.out⟩
      case round =>
        obtain ⟨L1, D1, a1, rfl, ha1', hL1, hst1⟩ := hrel
        have HA1 := hide ha1'
        have HS1 := hide hst1
        have hb0 : 0 ≤ a1 := by omega
        have hb1 : a1 ≤ 1024 := by omega
        clear ha1' hst1
        by_cases hpos : 0 < a1
        · obtain ⟨n, hn⟩ : ∃ n, L1.length = n + 1 := ⟨L1.length - 1, by have := HA1.out; omega⟩
          have ha : a1 = (n : Int) + 1 := by rw [HA1.out, hn]; simp
          subst ha
          have HNL := hide hn
          have hnb : n ≤ 1100 := by omega
          go_wp2_with fail
          obtain ⟨q1, q2, q3, q4, q5, q6, q7, q8, q9, q10⟩ := HS1.out
          refine (check_any w.heap.size w.heap.size (w.heap.size + 1) w2.heap.size os.length R _ L1 E D1 (E.length : Int) n false q1 HNL.out hnb q2 q3 (by omega) q4 q5 (by omega) (by omega) q6 q7 (Nat.le_refl _) q8.size q10).mono ?_
          rintro e w6 ⟨rfl, L', D', r1, r2, r3, r4, r5, r6, r7⟩
          have hst6 : St w (w.heap.size + 1) w2.heap.size os.length E L' D' R w6 := ⟨r1, r3, r4, q4, r5, q6, q7, q8.trans r6, fun i hi => by rw [r7 i hi]; exact q9 i hi, q10⟩
          have H6 := hide hst6
          have HL6 := hide r2
          clear hst6 r1 r2 r3 r4 r5 r6 r7 q1 q2 q3 q4 q5 q6 q7 q8 q9 q10
          go_wp2_with fail
          go_roundw
          case rel => exact ⟨L', D', (n : Int), by go_num, by rw [HL6.out], by rw [HL6.out]; omega, H6.out⟩
          case measure => simp [intOf]
        · obtain rfl : L1 = [] := List.eq_nil_of_length_eq_zero (by have := HA1.out; omega)
          have h0 : a1 = 0 := by simpa using HA1.out
          subst h0
          go_wp2_with fail
          refine (len_int w.heap.size w.heap.size R _ [] (E.length : Int) 0 HS1.out.1 rfl).mono ?_
          rintro e w5 ⟨rfl, hw5⟩
          rw [hw5]
          clear hw5
          go_wp2_with fail
          go_ret
          exact ⟨rfl, HS1.out.2.2.2.2.2.2.2.1⟩

set_option maxRecDepth 100000 in
set_option maxHeartbeats 400000 in
theorem walk_big (ka : Option Addr) (len cap : Nat) (w : World) (hl : 1024 < len) :
    Calls Yba.prog 3 #[.slice ka len cap] w fun e w' => e = .returned (.bool true) ∧ Below w.heap.size w w' := by
  go_enter Yba.func3, Yba.ntmps3
  go_wp2_with fail
  go_ret
  exact ⟨rfl, Below.refl _ _⟩

end Go.Proofs.Ybulkmvu.Script
