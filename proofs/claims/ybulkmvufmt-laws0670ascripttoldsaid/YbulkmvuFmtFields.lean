/-
  The fields of an r or w line, as the law's inner loop builds them.
-/
import Derived.Test.YbulkmvuFmtStays
namespace Go.Proofs.YbulkmvuFmt
open Go.RowKit Go.Extern.Stop Go.Stop Go.Extern
set_option linter.unusedVariables false

/-- j addresses behind the keyword. -/
def FRel (w1 : World) (lo : Nat) (kw : ByteArray) (A : Nat → Nat) (j : Nat) (v : Value) (wx : World) : Prop :=
  ∃ (xs : List Value) (Lf : Nat → List UInt8), wx.ownsRow lo 9 1 v (j + 1) xs ∧ Below lo w1 wx ∧ xs[0]? = some (.string kw) ∧ ∀ i, i < j → Num 16 (A i) (Lf i) ∧ xs[1 + i]? = some (.string ⟨(48 :: 120 :: Lf i).toArray⟩)

theorem FRel.start (w1 : World) (kw : ByteArray) (A : Nat → Nat) : FRel w1 w1.heap.size kw A 0 (.slice (some ⟨w1.heap.size, 0, none⟩) 1 1) (w1.alloc (.cells #[.string kw] 9)) := by
  refine ⟨[.string kw], fun _ => [], ⟨rfl, Or.inr ⟨w1.heap.size, 1, #[.string kw], rfl, Nat.le_refl _, heap_alloc_new w1 _, Nat.le_refl _, by unfold maxLen; omega, rfl, rfl⟩⟩, (Below.refl _ _).alloc (Nat.le_refl _) _, rfl, fun i hi => absurd hi (by omega)⟩

theorem FRel.below {w1 wx wy : World} {lo : Nat} {kw : ByteArray} {A : Nat → Nat} {j : Nat} {v : Value} (h : FRel w1 lo kw A j v wx) (hlo : lo ≤ w1.heap.size) (hb : Below wx.heap.size wx wy) : FRel w1 lo kw A j v wy := by
  obtain ⟨xs, Lf, ⟨h1, h2⟩, h3, h4⟩ := h
  refine ⟨xs, Lf, ⟨h1, ?_⟩, h3.trans (hb.mono (Nat.le_trans hlo h3.size)), h4⟩
  rcases h2 with h2 | ⟨g, cap, cur, e1, e2, e3, e4⟩
  · exact Or.inl h2
  · exact Or.inr ⟨g, cap, cur, e1, e2, (hb.block _ (lt_of_block e3)).trans e3, e4⟩

theorem FRel.at {w1 wx : World} {lo : Nat} {kw : ByteArray} {A : Nat → Nat} {j : Nat} {v : Value} (h : FRel w1 lo kw A j v wx) :
    ∃ (g cap : Nat) (Lf : Nat → List UInt8), v = .slice (some ⟨g, 0, none⟩) (j + 1) cap ∧ j + 1 ≤ cap ∧ lo ≤ g ∧ g < wx.heap.size ∧ wx.cell? ⟨g, 0, none⟩ = some (.string kw) ∧ ∀ i, i < j → Num 16 (A i) (Lf i) ∧ wx.cell? ⟨g, 1 + i, none⟩ = some (.string ⟨(48 :: 120 :: Lf i).toArray⟩) := by
  obtain ⟨xs, Lf, ⟨h1, h2⟩, h3, h4, h5⟩ := h
  rcases h2 with ⟨_, h2⟩ | ⟨g, cap, cur, e1, e2, e3, e4, e5, e6, e7⟩
  · omega
  · have hx : ∀ i u, xs[i]? = some u → wx.cell? ⟨g, i, none⟩ = some u := fun i u hu => by
      rw [cell_of_row _ _ _ _ _ _ e3]
      rw [← e7, List.getElem?_take] at hu
      split at hu
      · simpa using hu
      · simp at hu
    exact ⟨g, cap, Lf, e1, e4, e2, lt_of_block e3, hx _ _ h4, fun i hi => ⟨(h5 i hi).1, hx _ _ (h5 i hi).2⟩⟩

/-- One more. -/
theorem wpList_append_fields {ops : Array Oper} {rest : List Oper} {o : Oper} {a : Act} {Q : Exit → Act → World → Prop} {w1 wx : World} {lo : Nat} {kw : ByteArray} {A : Nat → Nat} {j : Nat} {v : Value} {l : List UInt8} (h : FRel w1 lo kw A j v wx) (hj : j ≤ 100) (hlo : lo ≤ w1.heap.size) (hl : Num 16 (A j) l)
    (hgd : o.guard = none) (s x : Operand) (ho : o.op = .call { callee := .builtin .append, args := #[s, x], argTypes := #[22, 22] }) (hs : a.eval s = v) (cx : Nat) (hx : a.eval x = .slice (some ⟨wx.heap.size, 0, none⟩) 1 cx)
    (hK : ∀ v' w', FRel w1 lo kw A (j + 1) v' w' → wx.heap.size ≤ w'.heap.size → wpList Ybaf.prog ops Q rest (a.put o.dst v') w') :
    wpList Ybaf.prog ops Q (o :: rest) a (wx.alloc (.cells #[.string ⟨(48 :: 120 :: l).toArray⟩] 9)) := by
  obtain ⟨i9, hi9, hz90, hz91, hz92⟩ := info_parts info9
  obtain ⟨xs, Lf, hown, hb, h4, h5⟩ := h.below (wy := wx.alloc (.cells #[.string ⟨(48 :: 120 :: l).toArray⟩] 9)) hlo ((Below.refl _ _).alloc (Nat.le_refl _) _)
  refine wpList_append_own_at _ hgd s x 22 ho lo 9 i9 _ 1 16 Ybaf.underlying22 hi9 hz90 hz91 hz92 rfl (by omega) v (j + 1) xs hs hown ⟨wx.heap.size, 0, none⟩ 1 cx [.string ⟨(48 :: 120 :: l).toArray⟩] hx rfl ?_ ?_ (by unfold maxLen; omega) (by omega) (by have := hb.size; omega) ?_
  · intro i u hu
    have hi : i = 0 := by have := (List.getElem?_eq_some_iff.1 hu).1; simpa using this
    subst hi
    simp at hu
    subst hu
    exact boxed_cell wx _ 9
  · intro u hu; simp at hu; subst hu; rfl
  · intro v' w' k1 k2 k3 k4
    have hxl := hown.1
    refine hK v' w' ⟨xs ++ [.string ⟨(48 :: 120 :: l).toArray⟩], fun i => if i = j then l else Lf i, k1, ?_, ?_, ?_⟩ (by have := k2.size; simp at this; omega)
    · refine hb.trans ⟨k2.os, k2.tape, k2.output, by have := k2.size; have := hb.size; omega, fun q hq => k2.block q (by have := hb.size; omega) (fun e => ?_)⟩
      rcases hown.2 with ⟨_, h0⟩ | ⟨g, cap, cur, e1, e2, _⟩
      · omega
      · rw [e1] at e; simp [Value.ownBlock] at e; omega
    · rw [List.getElem?_append_left (by omega)]; exact h4
    · intro i hi
      by_cases hij : i = j
      · subst hij
        simp only [if_pos]
        refine ⟨hl, ?_⟩
        rw [List.getElem?_append_right (by omega), hxl]
        rw [show 1 + i - (i + 1) * 1 = 0 by omega]
        rfl
      · simp only [if_neg hij]
        refine ⟨(h5 i (by omega)).1, ?_⟩
        rw [List.getElem?_append_left (by omega)]
        exact (h5 i (by omega)).2

/-- The measures of the two inner loops. -/
def mu23 (n : Nat) (a : Act) (_ : World) : Nat := n - (intOf (a.tmps.getD 23 undef)).toNat
def mu32 (n : Nat) (a : Act) (_ : World) : Nat := n - (intOf (a.tmps.getD 32 undef)).toNat

/-- The sum of addresses wraps. -/
def sumA (a j : Nat) : Nat := (a + j) % 18446744073709551616
theorem sumA_int (a j : Nat) : IntKind.u64.wrap ((a : Int) + (j : Int)) = (sumA a j : Int) := by
  unfold sumA
  simp [IntKind.wrap, IntKind.signed, IntKind.bits]
theorem sumA_lt (a j : Nat) : sumA a j < 18446744073709551616 := Nat.mod_lt _ (by omega)

theorem FRel.bel {w1 wx : World} {lo : Nat} {kw : ByteArray} {A : Nat → Nat} {j : Nat} {v : Value} (h : FRel w1 lo kw A j v wx) : Below lo w1 wx := by
  obtain ⟨_, _, _, h, _⟩ := h
  exact h

/-- Inside the loop that builds the fields. -/
def L2 (w1 : World) (bx : Nat) (kw : ByteArray) (A : Nat → Nat) (cnt k : Nat) (v4 nkv : Value) (u : Nat → Value) (j : Nat) (v : Nat → Value) (wx : World) : Prop :=
  j ≤ cnt ∧ FRel w1 w1.heap.size kw A j (v 11) wx ∧ v 23 = .int .i64 (j : Int) ∧ v 4 = v4 ∧ v 5 = u 5 ∧ v 6 = u 6 ∧ v 7 = u 7 ∧ v 9 = .pointer (some ⟨bx, 0, none⟩) ∧ v 10 = .int .i64 ((k : Int) + 2) ∧ v 12 = .bool false ∧ v 13 = nkv ∧ v 14 = .int .i64 4 ∧ v 15 = .int .i64 (cnt : Int) ∧ v 16 = .string kw ∧ v 52 = .int .i64 (k : Int)

/-- Inside the loop that compares the addresses; bi: the block of the instruction read back. -/
def L3 (w8 : World) (bx bi : Nat) (cnt k : Nat) (v4 : Value) (u : Nat → Value) (j : Nat) (v : Nat → Value) (wx : World) : Prop :=
  j ≤ cnt ∧ (∃ i, wx = w8.drewN i) ∧ v 32 = .int .i64 (j : Int) ∧ v 4 = v4 ∧ v 5 = u 5 ∧ v 6 = u 6 ∧ v 7 = u 7 ∧ v 9 = .pointer (some ⟨bx, 0, none⟩) ∧ v 15 = .int .i64 (cnt : Int) ∧ v 30 = .pointer (some ⟨bi, 0, none⟩) ∧ v 52 = .int .i64 (k : Int)

theorem in_frame {I : Nat → (Nat → Value) → World → Prop} {arr : Array Value} {w : World} {a0 : Option Addr} {n c B : Nat} (j : Nat) (h : arr = frame a0 n c B (fun i => arr.getD i undef)) (hI : I j (fun i => arr.getD i undef) w) : ∃ (j : Nat) (v : Nat → Value), (⟨arr, []⟩ : Act) = ⟨frame a0 n c B v, []⟩ ∧ I j v w :=
  ⟨j, _, by rw [← h], hI⟩

theorem mu23_frame {a0 : Option Addr} {n c B cnt j : Nat} {v : Nat → Value} (wx : World) (h : v 23 = .int .i64 (j : Int)) : mu23 cnt ⟨frame a0 n c B v, []⟩ wx = cnt - j := by
  show cnt - (intOf (v 23)).toNat = cnt - j
  rw [h]
  rfl
theorem mu32_frame {a0 : Option Addr} {n c B cnt j : Nat} {v : Nat → Value} (wx : World) (h : v 32 = .int .i64 (j : Int)) : mu32 cnt ⟨frame a0 n c B v, []⟩ wx = cnt - j := by
  show cnt - (intOf (v 32)).toNat = cnt - j
  rw [h]
  rfl
theorem mu23_less {arr : Array Value} {cnt j : Nat} (wx : World) (h : arr.getD 23 undef = .int .i64 ((j : Int) + 1)) (hj : j < cnt) : mu23 cnt ⟨arr, []⟩ wx < cnt - j := by
  unfold mu23
  show cnt - (intOf (arr.getD 23 undef)).toNat < cnt - j
  rw [h]
  show cnt - ((j : Int) + 1).toNat < cnt - j
  omega
theorem mu32_less {arr : Array Value} {cnt j : Nat} (wx : World) (h : arr.getD 32 undef = .int .i64 ((j : Int) + 1)) (hj : j < cnt) : mu32 cnt ⟨arr, []⟩ wx < cnt - j := by
  unfold mu32
  show cnt - (intOf (arr.getD 32 undef)).toNat < cnt - j
  rw [h]
  show cnt - ((j : Int) + 1).toNat < cnt - j
  omega
end Go.Proofs.YbulkmvuFmt
