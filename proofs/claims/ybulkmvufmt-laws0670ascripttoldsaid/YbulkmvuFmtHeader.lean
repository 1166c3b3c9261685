/-
  'LawS0670AHeader' walked.
-/
import Derived.Test.YbulkmvuFmtHead
import Derived.OneCell
import Derived.Laws.Rows
namespace Go.Proofs.YbulkmvuFmt
open Go.RowKit Go.Extern.Stop Go.Stop Go.Extern

theorem info9 : (Ybaf.prog.info? 9).map (fun i => (i.zero, i.size, i.bytes)) = some (some (.string ⟨#[]⟩), 1, 16) := by kernel_rfl

theorem str_is {s : ByteArray} {l : List UInt8} (h : (s.toList == l) = true) : s = ⟨l.toArray⟩ := by
  have h1 : s.toList = l := by simpa using h
  rw [ByteArray.toList_eq] at h1
  cases s
  simp at h1
  rw [← h1]

/-- The strings that came in. -/
def StrsAt (w : World) (a : Option Addr) (xs : List ByteArray) : Prop :=
  (a = none ∧ xs = []) ∨ ∃ ad : Addr, a = some ad ∧ ∀ i s, xs[i]? = some s → w.cell? (ad.add i) = some (.string s)

theorem wpList_append_stop {P : Program} {ops : Array Oper} {rest : List Oper} {op : Oper} {a : Act} {w : World} {Q : Exit → Act → World → Prop} (_hgd : op.guard = none) (s x : Operand) (t : TypeId) (_ho : op.op = Op.call { callee := .builtin .append, args := #[s, x], argTypes := #[t, t] })
    (h : ∃ n : Nat, n = 1 ∧ wpList P ops Q (op :: rest) a w) : wpList P ops Q (op :: rest) a w := h.elim fun _ h => h.2

set_option maxHeartbeats 1000000 in
set_option maxRecDepth 100000 in
theorem header_big (kw : ByteArray) (a1 : Option Addr) (n c1 : Nat) (w : World) (hn : 1024 < n) :
    Calls Ybaf.prog 3 #[.string kw, .slice a1 n c1] w fun e w' => e = .returned (.bool true) ∧ Below w.heap.size w w' := by
  go_enter Ybaf.func3, Ybaf.ntmps3
  go_wp2_with fail
  go_ret
  exact ⟨rfl, Below.refl _ _⟩

/-- Is this the header's line? -/
def wants (kw : ByteArray) (xs : List ByteArray) : Bool := (kw.toList == [112, 97, 103, 101, 119, 114, 105, 103, 104, 116, 45, 116, 114, 97, 99, 101]) && (match xs with | [f] => f.toList == [49] | _ => false)

theorem fresh3 {w : World} {B : Nat} {st : Bool} (h : w.heap[B]? = some (.cells (fresh st) 29 (0, 0))) : w.cell? ⟨B, 3, none⟩ = some (.bool st) := by
  rw [cell_of_row _ _ _ _ _ _ h]; rfl

/-- 'parse' ahead of the header, whatever the line. -/
theorem parse_all (F : Interp) (w : World) (B b n c : Nat) (kw : ByteArray) (xs : List ByteArray) (hF : F.answers w.tape) (hlen : n = xs.length + 1) (hn2 : n ≤ 2000) (hc : n ≤ c) (hBs : w.heap.size = B + 1) (hB : w.heap[B]? = some (.cells (fresh false) 29 (0, 0)))
    (hk : w.cell? ⟨b, 0, none⟩ = some (.string kw)) (hy : ∀ i s, xs[i]? = some s → w.cell? ⟨b, 1 + i, none⟩ = some (.string s)) :
    Calls Ybaf.prog 5 #[.pointer (some ⟨B, 0, none⟩), .slice (some ⟨b, 0, none⟩) n c, .int .i64 1] w fun e w' => ∃ v, e = .returned v ∧ Below B w w' ∧ w'.heap[B]? = some (.cells (fresh (wants kw xs)) 29 (0, 0)) ∧
      ((wants kw xs = true ∧ v = .nilIface) ∨ (wants kw xs = false ∧ ∃ a, v = .iface 75 (.pointer (some a)))) := by
  have h3 := fresh3 hB
  have hbad : wants kw xs = false → ∀ (e : Ending) (w' : World), ((∃ a, e = .returned (.iface 75 (.pointer (some a)))) ∧ Below w.heap.size w w') → ∃ v, e = .returned v ∧ Below B w w' ∧ w'.heap[B]? = some (.cells (fresh (wants kw xs)) 29 (0, 0)) ∧
      ((wants kw xs = true ∧ v = .nilIface) ∨ (wants kw xs = false ∧ ∃ a, v = .iface 75 (.pointer (some a)))) := by
    rintro hw e w' ⟨⟨a, rfl⟩, hb⟩
    refine ⟨_, rfl, hb.mono (by omega), ?_, Or.inr ⟨hw, a, rfl⟩⟩
    rw [hw, hb.block B (by omega), hB]
  by_cases h1 : (kw.toList == [112, 97, 103, 101, 119, 114, 105, 103, 104, 116, 45, 116, 114, 97, 99, 101]) = true
  · have hkw := str_is h1
    by_cases h2 : xs.length = 1
    · obtain ⟨f, rfl⟩ : ∃ f, xs = [f] := by
        match xs, h2 with
        | [f], _ => exact ⟨f, rfl⟩
      have hv := hy 0 f rfl
      obtain rfl : n = 2 := by simpa using hlen
      by_cases h4 : (f.toList == [49]) = true
      · have hf := str_is h4
        have hw : wants kw [f] = true := by simp only [wants, h1, h4, Bool.and_self]
        subst hkw
        subst hf
        refine (parse_ok w B b 0 c hc h3 (frozen_of_row _ _ _ _ _ hB) hk (by simpa using hv)).mono ?_
        rintro e w' ⟨rfl, m, rfl⟩
        refine ⟨_, rfl, (below_drewN (Below.refl _ _) m).trans ⟨rfl, rfl, rfl, by simp [World.setCell], fun q hq => heap_setCell_other _ _ _ _ (by simp; omega)⟩, ?_, Or.inl ⟨hw, rfl⟩⟩
        rw [hw]
        exact heap_setCell_same (w.drewN m) B 3 _ 29 (.bool true) hB
      · have hw : wants kw [f] = false := by simp only [wants, h1, h4, Bool.true_and]
        subst hkw
        exact (parse_ver F w B b 0 c f hF hc h3 hk (by simpa using hv) (by simpa using h4)).mono (hbad hw)
    · have hw : wants kw xs = false := by
        simp only [wants, h1, Bool.true_and]
        match xs, h2 with
        | [], _ => rfl
        | _ :: _ :: _, _ => rfl
        | [_], h => exact absurd rfl h
      subst hkw
      exact (parse_len F w B b 0 n c hF (by omega) hn2 hc h3 hk (by omega)).mono (hbad hw)
  · have h1' : (kw.toList == [112, 97, 103, 101, 119, 114, 105, 103, 104, 116, 45, 116, 114, 97, 99, 101]) = false := by simpa using h1
    have hw : wants kw xs = false := by simp only [wants, h1', Bool.false_and]
    exact (parse_kw F w B b 0 n c kw hF (by omega) hn2 hc h3 hk h1').mono (hbad hw)

theorem own_same {w w' : World} {base : Nat} {e : TypeId} {size : Nat} {v : Value} {n : Nat} {xs : List Value} (h : w.ownsRow base e size v n xs) (hb : ∀ q, q < w.heap.size → w'.heap[q]? = w.heap[q]?) : w'.ownsRow base e size v n xs := by
  refine ⟨h.1, ?_⟩
  rcases h.2 with h0 | ⟨g, cap, cur, h1, h2, h3, h4⟩
  · exact Or.inl h0
  · exact Or.inr ⟨g, cap, cur, h1, h2, (hb g (lt_of_block h3)).trans h3, h4⟩

theorem below_grown {w a b : World} {r : Option Nat} (h : Below w.heap.size w a) (hg : a.grownBy b r) (hr : ∀ q, r = some q → w.heap.size ≤ q) : Below w.heap.size w b :=
  h.trans ⟨hg.os, hg.tape, hg.output, by have := hg.size; have := h.size; omega, fun k hk => hg.block k (by have := h.size; omega) (fun e => by have := hr k e.symm; omega)⟩

theorem wants_true {kw : ByteArray} {xs : List ByteArray} (h : wants kw xs = true) : (kw.toList == [112, 97, 103, 101, 119, 114, 105, 103, 104, 116, 45, 116, 114, 97, 99, 101]) = true ∧ ∃ f, xs = [f] ∧ (f.toList == [49]) = true := by
  simp only [wants, Bool.and_eq_true] at h
  refine ⟨h.1, ?_⟩
  match xs, h.2 with
  | [f], h2 => exact ⟨f, rfl, h2⟩

theorem args_one {w w6 : World} {a1 : Option Addr} {xs : List ByteArray} (h : StrsAt w a1 xs) (hb : Below w.heap.size w w6) {f : ByteArray} (hf : xs = [f]) : ∃ b off, a1 = some ⟨b, off, none⟩ ∧ w6.cell? ⟨b, off, none⟩ = some (.string f) := by
  subst hf
  rcases h with ⟨_, h⟩ | ⟨⟨b, off, spot⟩, rfl, h⟩
  · simp at h
  · have h0 := h 0 f rfl
    have hspot : spot = none := by simpa [Addr.add] using World.cell?_spot h0
    subst hspot
    have h0' : w.cell? ⟨b, off, none⟩ = some (.string f) := by simpa [Addr.add] using h0
    exact ⟨b, off, rfl, (hb.cell (World.block_lt_of_cell? _ _ h0')).trans h0'⟩

set_option maxHeartbeats 4000000 in
set_option maxRecDepth 100000 in
theorem header_any (F : Interp) (kw : ByteArray) (a1 : Option Addr) (c1 : Nat) (xs : List ByteArray) (w : World) (hF : F.answers w.tape) (hn : xs.length ≤ 1024) (hin : StrsAt w a1 xs) (hnil : a1 = none → c1 = 0) :
    Calls Ybaf.prog 3 #[.string kw, .slice a1 xs.length c1] w fun e w' => e = .returned (.bool true) ∧ Below w.heap.size w w' := by
  obtain ⟨i9, hi, hz0, hz1, hz2⟩ := info_parts info9
  have HI := hide hin
  clear hin
  go_enter Ybaf.func3, Ybaf.ntmps3
  go_wp2_with (first
    | (at_make; refine wpList_make_own _ rfl _ _ 22 rfl w.heap.size 9 i9 _ 1 Ybaf.underlying22 hi hz0 hz1 _ _ _ (xs.length + 1) rfl rfl (by omega) (by rw [hz2]; omega) (by unfold maxLen; omega) (by simp) ?_; intro w2 ho2 hg2; have HO2 := hide ho2; have HG2 := hide hg2; clear ho2 hg2)
    | (refine wpList_append_stop rfl _ _ 22 rfl ?_)
    | fail)
  refine ⟨1, rfl, ?_⟩
  have ho2 : (w2.alloc (.cells #[.string kw] 9)).ownsRow w.heap.size 9 1 (.slice (some ⟨w.heap.size, 0, none⟩) 0 (xs.length + 1)) 0 [] := own_same HO2.out (fun q hq => Below.heap_alloc _ _ _ hq)
  have hb2 : Below w.heap.size w w2 := below_grown (Below.refl _ _) HG2.out (by simp)
  have hb2' : Below w.heap.size w (w2.alloc (.cells #[.string kw] 9)) := hb2.alloc hb2.size _
  have hs2 := hb2.size
  refine wpList_append_own _ rfl (.tmp 16) (.tmp 18) 22 rfl w.heap.size 9 i9 _ 1 16 Ybaf.underlying22 hi hz0 hz1 hz2 rfl (by omega) (.slice (some ⟨w.heap.size, 0, none⟩) 0 (xs.length + 1)) 0 [] rfl ho2 ⟨w2.heap.size, 0, none⟩ 1 1 [.string kw] ?hx ?hl ?hn ?h1 ?b1 ?b2 ?b3 ?_
  case hx => rfl
  case hl => rfl
  case hn =>
    intro j u hu
    have hj : j = 0 := by
      have := (List.getElem?_eq_some_iff.1 hu).1
      simpa using this
    subst hj
    simp at hu
    subst hu
    exact boxed_cell w2 _ 9
  case h1 => intro u hu; simp at hu; subst hu; rfl
  case b1 => unfold maxLen; omega
  case b2 => omega
  case b3 => simp; omega
  intro v3 w3 ho3 hg3 hq3
  clear hq3
  have hb3 : Below w.heap.size w w3 := below_grown hb2' hg3 (by intro q hq; simp [Value.ownBlock] at hq; omega)
  rcases ho3.2 with ⟨-, h0⟩ | ⟨g3, cap3, cur3, rfl, hg3b, -⟩
  · simp at h0
  have HO3 := hide ho3
  have HB3 := hide hb3
  clear ho2 hb2 hb2' hs2 hg3 hb3 ho3 HO2 HG2
  go_wp2_with (first | (refine wpList_append_stop rfl _ _ 22 rfl ?_) | fail)
  refine ⟨1, rfl, ?_⟩
  rcases HI.out with ⟨ha, hx⟩ | ⟨ad, ha, hx⟩
  case' inl =>
    have hc0 := hnil ha
    refine wpList_append_own_none rfl (.tmp 20) (.tmp 21) 22 rfl w.heap.size 9 i9 1 Ybaf.underlying22 hi (.slice (some ⟨g3, 0, none⟩) (0 + 1) cap3) 1 ([] ++ [.string kw]) rfl HO3.out ?hx ?_
    case hx =>
      show Value.slice a1 xs.length c1 = .slice none 0 0
      rw [ha, hc0, hx]; rfl
    have HO4 : Hid (w3.ownsRow w.heap.size 9 1 (.slice (some ⟨g3, 0, none⟩) (0 + 1) cap3) (xs.length + 1) (.string kw :: xs.map .string)) := hide (by rw [hx]; exact HO3.out)
    have HB4 := HB3
    generalize Value.slice (some ⟨g3, 0, none⟩) (0 + 1) cap3 = v4 at HO4 ⊢
    generalize w3 = w4 at HO4 HB4 ⊢
    clear HO3 HB3 hx hc0
  case' inr =>
    refine wpList_append_own _ rfl (.tmp 20) (.tmp 21) 22 rfl w.heap.size 9 i9 _ 1 16 Ybaf.underlying22 hi hz0 hz1 hz2 rfl (by omega) (.slice (some ⟨g3, 0, none⟩) (0 + 1) cap3) 1 ([] ++ [.string kw]) rfl HO3.out ad xs.length c1 (xs.map .string) ?hx ?hl ?hn ?h1 ?b1 ?b2 ?b3 ?_
    case hx =>
      show Value.slice a1 xs.length c1 = .slice (some ad) xs.length c1
      rw [ha]
    case hl => simp
    case hn =>
      intro j u hu
      rw [List.getElem?_map] at hu
      cases hj : xs[j]? with
      | none => rw [hj] at hu; simp at hu
      | some y =>
        rw [hj] at hu
        simp at hu
        subst hu
        have := hx j y hj
        rw [HB3.out.cell (World.block_lt_of_cell? _ _ this)]
        exact this
    case h1 => intro u hu; simp at hu; obtain ⟨y, _, rfl⟩ := hu; rfl
    case b1 => unfold maxLen; omega
    case b2 => omega
    case b3 => exact HB3.out.size
    intro v4 w4 ho4 hg4 hq4
    have HO4 : Hid (w4.ownsRow w.heap.size 9 1 v4 (xs.length + 1) (.string kw :: xs.map .string)) := hide (by rw [Nat.add_comm]; exact ho4)
    have HB4 : Hid (Below w.heap.size w w4) := hide (below_grown HB3.out hg4 (by intro q hq; simp [Value.ownBlock] at hq; omega))
    clear HO3 HB3 ho4 hg4 hq4 hx
  all_goals (
    have ho4 := HO4.out
    rcases ho4.2 with ⟨-, h0⟩ | ⟨g4, cap4, cur4, rfl, -, hg4, hcap, -, hsz, htk⟩
    · simp at h0
    have hcell : ∀ j u, (Value.string kw :: xs.map .string)[j]? = some u → w4.cell? ⟨g4, j, none⟩ = some u := by
      intro j u hu
      have hj := (List.getElem?_eq_some_iff.1 hu).1
      rw [cell_of_row _ _ _ _ _ _ hg4]
      rw [← htk, List.getElem?_take] at hu
      split at hu
      · simpa using hu
      · simp at hu
    have HCL := hide hcell
    have hg4l := lt_of_block hg4
    clear ho4 hg4 hsz htk hcell HO4
    go_wp2_with fail
    generalize hw5 : w4.alloc _ = w5
    have h5B : w5.heap[w4.heap.size]? = some (.cells (fresh false) 29 (0, 0)) := by rw [← hw5]; exact heap_alloc_new w4 _
    have hb45 : Below w4.heap.size w4 w5 := by rw [← hw5]; exact (Below.refl _ _).alloc (Nat.le_refl _) _
    have hs5 : w5.heap.size = w4.heap.size + 1 := by rw [← hw5]; simp
    have hF5 : F.answers w5.tape := by rw [hb45.tape, HB4.out.tape]; exact hF
    have hck : w5.cell? ⟨g4, 0, none⟩ = some (.string kw) := (hb45.cell hg4l).trans (HCL.out 0 (.string kw) rfl)
    have hcy : ∀ i s, xs[i]? = some s → w5.cell? ⟨g4, 1 + i, none⟩ = some (.string s) := by
      intro i s hi
      refine (hb45.cell hg4l).trans (HCL.out (1 + i) (.string s) ?_)
      rw [Nat.add_comm, List.getElem?_cons_succ, List.getElem?_map, hi]; rfl
    have hpar := parse_all F w5 w4.heap.size g4 (xs.length + 1) cap4 kw xs hF5 rfl (by omega) hcap hs5 h5B hck hcy
    refine hpar.mono ?_
    rintro e w6 ⟨v, rfl, hb6, hB6, hv⟩
    have HB6 : Hid (Below w.heap.size w w6) := hide (HB4.out.trans ((hb45.trans hb6).mono HB4.out.size))
    have f0 : w6.cell? ⟨w4.heap.size, 0, none⟩ = some (.slice none 0 0) := by rw [cell_of_row _ _ _ _ _ _ hB6]; rfl
    have f1 : w6.cell? ⟨w4.heap.size, 1, none⟩ = some (.slice none 0 0) := by rw [cell_of_row _ _ _ _ _ _ hB6]; rfl
    have f3 : w6.cell? ⟨w4.heap.size, 3, none⟩ = some (.bool (wants kw xs)) := by rw [cell_of_row _ _ _ _ _ _ hB6]; rfl
    have f4 : w6.cell? ⟨w4.heap.size, 4, none⟩ = some (.slice none 0 0) := by rw [cell_of_row _ _ _ _ _ _ hB6]; rfl
    have harg : ∀ f, xs = [f] → ∃ b off, a1 = some ⟨b, off, none⟩ ∧ w6.cell? ⟨b, off, none⟩ = some (.string f) := fun f hf => args_one HI.out HB6.out hf
    have HAR := hide harg
    clear hw5 h5B hb45 hs5 hF5 hb6 hB6 HCL hg4l hcap harg
    rcases hv with ⟨hw, rfl⟩ | ⟨hw, a, rfl⟩
    · obtain ⟨h1, f, hxf, h4⟩ := wants_true hw
      obtain ⟨b, off, e1, e2⟩ := HAR.out f hxf
      rw [hw] at f3
      rw [e1] at ha
      have hx1 : (xs.length : Int) = 1 := by rw [hxf]; rfl
      clear HAR HI hw
      cases ha <;> (go_wp2_with fail; go_ret; exact ⟨rfl, HB6.out⟩)
    · rw [hw] at f3
      by_cases h1 : (kw.toList == [112, 97, 103, 101, 119, 114, 105, 103, 104, 116, 45, 116, 114, 97, 99, 101]) = true
      · by_cases h2 : xs.length = 1
        · obtain ⟨f, hxf⟩ : ∃ f, xs = [f] := by
            match xs, h2 with
            | [f], _ => exact ⟨f, rfl⟩
          have h4 : (f.toList == [49]) = false := by rw [hxf] at hw; simpa only [wants, h1, Bool.true_and] using hw
          obtain ⟨b, off, e1, e2⟩ := HAR.out f hxf
          rw [e1] at ha
          have hx1 : (xs.length : Int) = 1 := by rw [hxf]; rfl
          clear HAR HI hw
          cases ha <;> (go_wp2_with fail; go_ret; exact ⟨rfl, HB6.out⟩)
        · have h2i : ¬ (xs.length : Int) = 1 := by omega
          clear HAR HI hw
          go_wp2_with fail
          go_ret
          exact ⟨rfl, HB6.out⟩
      · have h1' : (kw.toList == [112, 97, 103, 101, 119, 114, 105, 103, 104, 116, 45, 116, 114, 97, 99, 101]) = false := by simpa using h1
        clear HAR HI hw
        go_wp2_with fail
        go_ret
        exact ⟨rfl, HB6.out⟩)
end Go.Proofs.YbulkmvuFmt
