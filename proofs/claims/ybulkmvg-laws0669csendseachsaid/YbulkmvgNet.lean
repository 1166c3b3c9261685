/-
  The stand-in network of 'LawS0669CSendsEach': what it logs.
-/
import Derived.Test.YbulkmvgProg
import Derived.WalkKit
import Derived.WalkSpells
import Derived.WalkLawsBesides
import Derived.Deep.AppendLies
import Derived.Deep.RegionLaw
import Derived.Deep.DrawnRows
namespace Go.Proofs.Ybulkmvg.Net
open Go.RowKit

theorem hide {p : Prop} (h : p) : Hid p := h
theorem info98 : (Yba.prog.info? 98).map (fun i => (i.zero.map (·.cells), i.size, i.bytes)) = some (some #[.int .i64 0, .string ByteArray.empty, .string ByteArray.empty, .string ByteArray.empty, .string ByteArray.empty, .int .i64 0, .string ByteArray.empty, .int .i64 0, .bool false, .bool false, .bool false, .bool false, .bool false, .pointer none, .pointer none], 15, 128) := by kernel_rfl

theorem info98p : ∃ i z, Yba.prog.info? 98 = some i ∧ i.zero = some z ∧ z.cells.size = 15 ∧ i.size = 15 ∧ i.bytes = 128 := by
  obtain ⟨i, hi, h⟩ := Option.map_eq_some_iff.1 info98
  simp only [Prod.mk.injEq] at h
  obtain ⟨z, hz, hzc⟩ := Option.map_eq_some_iff.1 h.1
  exact ⟨i, z, hi, hz, by rw [hzc]; rfl, h.2.1, h.2.2⟩

/-- The log: j messages, their cells one behind the other. -/
def Log (B W : Nat) (w : World) (j : Nat) (xs : List Value) : Prop :=
  ∃ ao cap, w.heap[W]? = some (.cells #[.slice ao j cap] 37 (0, 0)) ∧ w.ownsRow B 98 15 (.slice ao j cap) j xs

/-- Whatever block is no row of messages, nor the network itself, is as it was. -/
def Kept (B W : Nat) (w w' : World) : Prop :=
  Below B w w' ∧ ∀ (k : Nat) (c : Array Value) (t : TypeId), t ≠ 98 → k ≠ W → w.heap[k]? = some (.cells c t (0, 0)) → w'.heap[k]? = some (.cells c t (0, 0))

theorem Kept.refl (B W : Nat) (w : World) : Kept B W w w := ⟨Below.refl _ _, fun _ _ _ _ _ h => h⟩
theorem Kept.trans {B W : Nat} {a b c : World} (h : Kept B W a b) (k : Kept B W b c) : Kept B W a c := ⟨h.1.trans k.1, fun q x t h1 h2 h3 => k.2 q x t h1 h2 (h.2 q x t h1 h2 h3)⟩
theorem Kept.of_below {B W : Nat} {a b : World} (hB : B ≤ a.heap.size) (h : Below a.heap.size a b) : Kept B W a b := ⟨h.mono hB, fun q _ _ _ _ h3 => by rw [h.block q (lt_of_block h3)]; exact h3⟩
theorem Log.of_below {B W j : Nat} {xs : List Value} {a b : World} (l : Log B W a j xs) (h : Below a.heap.size a b) : Log B W b j xs := by
  obtain ⟨ao, cap, h1, h2⟩ := l
  exact ⟨ao, cap, by rw [h.block W (lt_of_block h1)]; exact h1, h2.kept (row := none) ⟨h.os, h.tape, h.output, h.size, fun k hk _ => h.block k hk⟩ (by cases hv : (Value.slice ao j cap).ownBlock <;> simp)⟩

theorem log_step {B W j : Nat} {xs ms : List Value} {w wx w2 : World} {ao : Option Addr} {cap g cap' : Nat} (hBW : B ≤ W)
    (hW : w.heap[W]? = some (.cells #[.slice ao j cap] 37 (0, 0))) (hown : w.ownsRow B 98 15 (.slice ao j cap) j xs) (hb : Below w.heap.size w wx)
    (hown2 : w2.ownsRow B 98 15 (.slice (some ⟨g, 0, none⟩) (j + 1) cap') (j + 1) (xs ++ ms)) (hgr : wx.grownBy w2 (Value.slice ao j cap).ownBlock) :
    w2.heap[W]? = some (.cells #[.slice ao j cap] 37 (0, 0)) ∧ Log B W (w2.setCell ⟨W, 0, none⟩ (.slice (some ⟨g, 0, none⟩) (j + 1) cap')) (j + 1) (xs ++ ms) ∧ Kept B W w (w2.setCell ⟨W, 0, none⟩ (.slice (some ⟨g, 0, none⟩) (j + 1) cap')) := by
  have hWlt := lt_of_block hW
  -- the row that is written holds messages
  have hne : ∀ (k : Nat) (c : Array Value) (t : TypeId), t ≠ 98 → w.heap[k]? = some (.cells c t (0, 0)) → some k ≠ (Value.slice ao j cap).ownBlock := by
    intro k c t ht hk e
    rcases hown.2 with ⟨hv, _⟩ | ⟨q, cap1, cur, hv, _, hq, _⟩
    · rw [hv] at e; simp [Value.ownBlock] at e
    · rw [hv] at e
      simp only [Value.ownBlock, Option.some.injEq] at e
      subst e
      rw [hk] at hq
      simp at hq
      exact ht hq.2
  have hk2 : ∀ (k : Nat) (c : Array Value) (t : TypeId), t ≠ 98 → w.heap[k]? = some (.cells c t (0, 0)) → w2.heap[k]? = some (.cells c t (0, 0)) := fun k c t ht hk => by
    have hlt := lt_of_block hk
    rw [hgr.block k (by have := hb.size; omega) (hne k c t ht hk), hb.block k hlt]
    exact hk
  have e2 := hk2 W #[.slice ao j cap] 37 (by decide) hW
  have hgW : g ≠ W := by
    rcases hown2.2 with ⟨hv, _⟩ | ⟨q, cap1, cur, hv, _, hq, _⟩
    · simp at hv
    · simp only [Value.slice.injEq, Option.some.injEq, Addr.mk.injEq, and_true] at hv
      obtain ⟨rfl, _⟩ := hv
      intro e
      subst e
      rw [e2] at hq
      simp at hq
  have hBw : B ≤ w.heap.size := by omega
  refine ⟨e2, ⟨some ⟨g, 0, none⟩, cap', ?_, ?_⟩, ?_, ?_⟩
  · rw [heap_setCell_same _ _ _ _ _ _ e2]; simp
  · exact ownsRow_setCell_other hown2 (by simpa [Value.ownBlock] using hgW) _
  · have h3 : Below B w w2 := ((hb.mono hBw).grown hgr (by have := hb.size; omega) (fun q hq => (hown.lt q hq).1))
    exact h3.setCell (p := ⟨W, 0, none⟩) hBW _
  · intro k c t ht hkW hk
    rw [heap_setCell_other _ _ _ _ (by simpa using hkW)]
    exact hk2 k c t ht hk

theorem one15 (m0 : Int) (m1 m2 m3 m4 : ByteArray) (m5 : Int) (m6 : ByteArray) (m7 : Int) (b1 b2 b3 b4 b5 : Bool) (p1 p2 : Option Addr) :
    ∀ u ∈ [Value.int .i64 m0, .string m1, .string m2, .string m3, .string m4, .int .i64 m5, .string m6, .int .i64 m7, .bool b1, .bool b2, .bool b3, .bool b4, .bool b5, .pointer p1, .pointer p2], u.oneCell' = true := by
  intro u hu
  simp only [List.mem_cons, List.not_mem_nil, or_false] at hu
  rcases hu with rfl | rfl | rfl | rfl | rfl | rfl | rfl | rfl | rfl | rfl | rfl | rfl | rfl | rfl | rfl <;> rfl

theorem newsAt (w : World) (o : Obj) (cs : Array Value) (t : TypeId) : ∀ j u, cs.toList[j]? = some u → (((w.alloc o).alloc (.cells cs t)).drew).cell? ((⟨w.heap.size + 1, 0, none⟩ : Addr).add j) = some u :=
  World.news_of_block (w := ((w.alloc o).alloc (.cells cs t)).drew) (B := w.heap.size + 1) (cs := cs) (t := t) (fr := (0, 0)) (heap_alloc2_new w o (.cells cs t))

set_option maxHeartbeats 1000000 in
theorem netsend_any (B W j : Nat) (xs : List Value) (w : World) (m0 : Int) (m1 m2 m3 m4 : ByteArray) (m5 : Int) (m6 : ByteArray) (m7 : Int) (b1 b2 b3 b4 b5 : Bool) (p1 p2 : Option Addr) (hlog : Log B W w j xs) (hj : j ≤ 2000) (hBW : B ≤ W) :
    Calls Yba.prog 56 #[.pointer (some ⟨W, 0, none⟩), .agg #[.int .i64 m0, .string m1, .string m2, .string m3, .string m4, .int .i64 m5, .string m6, .int .i64 m7, .bool b1, .bool b2, .bool b3, .bool b4, .bool b5, .pointer p1, .pointer p2]] w fun e w' =>
      e = .returned (.tuple #[]) ∧ Log B W w' (j + 1) (xs ++ [.int .i64 m0, .string m1, .string m2, .string m3, .string m4, .int .i64 m5, .string m6, .int .i64 m7, .bool b1, .bool b2, .bool b3, .bool b4, .bool b5, .pointer p1, .pointer p2]) ∧ Kept B W w w' := by
  obtain ⟨i0, z, hi, hz0, hzs, hz1, hz2⟩ := info98p
  obtain ⟨ao, cap, hW, hown⟩ := hlog
  have c0 : w.cell? ⟨W, 0, none⟩ = some (.slice ao j cap) := by rw [cell_of_row _ _ _ _ _ _ hW]; rfl
  have f0 : w.frozen? ⟨W, 0, none⟩ = false := frozen_of_row _ _ _ _ _ hW
  have hWlt := lt_of_block hW
  have hW1 : W < w.heap.size + 1 := by omega
  have HW := hide hW
  have HO := hide hown
  clear hW hown
  go_enter Yba.func56, Yba.ntmps56
  go_wp2_with fail
  go_region_law
    (first
      | (refine step_append_lies _ (by rfl) _ _ _ (by rfl) B 98 i0 z 15 128 Yba.underlying35 hi hz0 hz1 hz2 hzs (by omega) _ j xs (by rfl) ((HO.out.alloc _).alloc _).drew _ 1 1 [.int .i64 m0, .string m1, .string m2, .string m3, .string m4, .int .i64 m5, .string m6, .int .i64 m7, .bool b1, .bool b2, .bool b3, .bool b4, .bool b5, .pointer p1, .pointer p2] (by rfl) (by rfl) (newsAt _ _ _ _) (one15 _ _ _ _ _ _ _ _ _ _ _ _ _ _ _) (by omega) (by unfold maxLen; omega) (by omega) (by simp; omega) _ rfl ?_; intro g cap' w2 hown2 hgr2 _ _; obtain ⟨e4, hlog, hkept⟩ := log_step hBW HW.out HO.out ((((Below.refl _ _).alloc (Nat.le_refl _) _).alloc (by simp) _).drew) hown2 hgr2; have c4 : w2.cell? ⟨W, 0, none⟩ = some (.slice ao j cap) := (cell_of_row _ _ _ _ _ _ e4).trans rfl; have f4 : w2.frozen? ⟨W, 0, none⟩ = false := frozen_of_row _ _ _ _ _ e4)
      | fail)
  all_goals
    clear c0 f0 c4 f4 e4 hown2 hgr2 HO HW
    go_wp2_with fail
    go_end0
    exact ⟨rfl, hlog, hkept⟩

end Go.Proofs.Ybulkmvg.Net
