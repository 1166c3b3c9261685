/-
  '(*node).retryFrom': one message to the home of the probe's root.
-/
import Derived.Test.YbulkmvgSend
namespace Go.Proofs.Ybulkmvg.Retry
open Go.RowKit Go.Proofs.Ybulkmvg.Net Go.Proofs.Ybulkmvg.Send

/-- What of the node is read: its name, its network; of its links: nothing heard, nobody told. -/
def NodeAt (w : World) (N W : Nat) (name : ByteArray) : Prop :=
  ∃ c : Array Value, w.heap[N]? = some (.cells c 69 (0, 0)) ∧ c[0]? = some (.string name) ∧ c[1]? = some (.iface 34 (.pointer (some ⟨W, 0, none⟩))) ∧ c[13]? = some (.int .i64 0) ∧ c[14]? = some (.map none)

theorem NodeAt.kept {w w' : World} {N W B : Nat} {name : ByteArray} (h : NodeAt w N W name) (hNW : N ≠ W) (k : Kept B W w w') : NodeAt w' N W name := by
  obtain ⟨c, h0, h1⟩ := h
  exact ⟨c, k.2 N c 69 (by decide) hNW h0, h1⟩

theorem NodeAt.below {w w' : World} {N W : Nat} {name : ByteArray} (h : NodeAt w N W name) (k : Below w.heap.size w w') : NodeAt w' N W name := by
  obtain ⟨c, h0, h1⟩ := h
  exact ⟨c, by rw [k.block N (lt_of_block h0)]; exact h0, h1⟩

theorem NodeAt.cells {w : World} {N W : Nat} {name : ByteArray} (h : NodeAt w N W name) :
    w.cell? ⟨N, 0, none⟩ = some (.string name) ∧ w.cell? ⟨N, 1, none⟩ = some (.iface 34 (.pointer (some ⟨W, 0, none⟩))) ∧ w.cell? ⟨N, 13, none⟩ = some (.int .i64 0) ∧ w.cell? ⟨N, 14, none⟩ = some (.map none) := by
  obtain ⟨c, h0, h1, h2, h3, h4⟩ := h
  rw [cell_of_row _ _ _ _ _ _ h0, cell_of_row _ _ _ _ _ _ h0, cell_of_row _ _ _ _ _ _ h0, cell_of_row _ _ _ _ _ _ h0]
  exact ⟨h1, h2, h3, h4⟩

theorem send_any (B W N j : Nat) (xs : List Value) (w : World) (name m1 m2 m3 m4 : ByteArray) (m0 m5 : Int) (m6 : ByteArray) (m7 : Int) (b1 b2 b3 b4 b5 : Bool) (p1 p2 : Option Addr) (hlog : Log B W w j xs) (hj : j ≤ 2000) (hBW : B ≤ W) (hn : NodeAt w N W name) :
    Calls Yba.prog 10 #[.pointer (some ⟨N, 0, none⟩), .agg #[.int .i64 m0, .string m1, .string m2, .string m3, .string m4, .int .i64 m5, .string m6, .int .i64 m7, .bool b1, .bool b2, .bool b3, .bool b4, .bool b5, .pointer p1, .pointer p2]] w fun e w' =>
      e = .returned (.tuple #[]) ∧ Log B W w' (j + 1) (xs ++ [.int .i64 m0, .string name, .string m2, .string ⟨#[]⟩, .string m4, .int .i64 m5, .string m6, .int .i64 m7, .bool b1, .bool b2, .bool b3, .bool b4, .bool b5, .pointer p1, .pointer p2]) ∧ Kept B W w w' := by
  obtain ⟨c0, c1, c13, c14⟩ := hn.cells
  by_cases h : m2.toList = name.toList
  · exact send_self B W N j xs w name m1 m2 m3 m4 m0 m5 m6 m7 b1 b2 b3 b4 b5 p1 p2 hlog hj hBW c0 c1 h
  · exact send_other B W N j xs w name m1 m2 m3 m4 m0 m5 m6 m7 b1 b2 b3 b4 b5 p1 p2 hlog hj hBW c0 c1 c13 c14 h

set_option maxRecDepth 100000 in
set_option maxHeartbeats 1000000 in
theorem retryFrom_any (B W N j : Nat) (xs : List Value) (w : World) (name site txn home coll : ByteArray) (n stamp seq : Int) (hlog : Log B W w j xs) (hj : j ≤ 2000) (hBW : B ≤ W) (hn : NodeAt w N W name) :
    Calls Yba.prog 9 #[.pointer (some ⟨N, 0, none⟩), .agg #[.string site, .int .i64 n, .string txn, .int .i64 stamp, .string home, .int .i64 seq, .string coll, .int .i64 0, .slice none 0 0, .pointer none, .string ⟨#[]⟩, .int .i64 0, .slice none 0 0, .slice none 0 0, .string ⟨#[]⟩, .int .i64 0, .string ⟨#[]⟩, .int .i64 0, .int .i64 0, .slice none 0 0, .string ⟨#[]⟩, .slice none 0 0, .int .i64 0, .int .i64 0, .int .i64 0, .string ⟨#[]⟩, .int .i64 0, .int .i64 0]] w fun e w' =>
      e = .returned (.tuple #[]) ∧ ∃ pb, w.heap.size ≤ pb ∧ Log B W w' (j + 1) (xs ++ [.int .i64 12, .string name, .string home, .string ⟨#[]⟩, .string txn, .int .i64 stamp, .string ⟨#[]⟩, .int .i64 seq, .bool false, .bool false, .bool false, .bool false, .bool false, .pointer (some ⟨pb, 0, none⟩), .pointer none]) ∧ w'.heap[pb]? = some (.cells #[.string site, .int .i64 n, .string ⟨#[]⟩, .int .i64 0, .string ⟨#[]⟩, .int .i64 0, .string ⟨#[]⟩, .int .i64 0, .slice none 0 0, .pointer none, .string ⟨#[]⟩, .int .i64 0, .slice none 0 0, .slice none 0 0, .string ⟨#[]⟩, .int .i64 0, .string ⟨#[]⟩, .int .i64 0, .int .i64 0, .slice none 0 0, .string ⟨#[]⟩, .slice none 0 0, .int .i64 0, .int .i64 0, .int .i64 0, .string ⟨#[]⟩, .int .i64 0, .int .i64 0] 89 (0, 0)) ∧ Kept B W w w' := by
  have HL := hide hlog
  have HN := hide hn
  have HW : Hid (W < w.heap.size) := by obtain ⟨_, _, h, _⟩ := hlog; exact lt_of_block h
  clear hlog hn
  go_enter Yba.func9, Yba.ntmps9
  go_wp2_with fail
  have hb : ∀ o1 o2 : Obj, Below w.heap.size w ((w.alloc o1).alloc o2) := fun _ _ => ((Below.refl _ _).alloc (Nat.le_refl _) _).alloc (by simp) _
  refine (send_any B W N j xs _ name _ _ _ _ _ _ _ _ _ _ _ _ _ _ _ (HL.out.of_below (hb _ _)) hj hBW (HN.out.below (hb _ _))).mono ?_
  rintro e w1 ⟨rfl, hlog, hkept⟩
  go_wp2_with fail
  go_end0
  refine ⟨rfl, w.heap.size + 1, by omega, hlog, ?_, (Kept.of_below (by have := HW.out; omega) (hb _ _)).trans hkept⟩
  exact hkept.2 _ _ 89 (by decide) (by have := HW.out; omega) (heap_alloc2_new w _ _)

end Go.Proofs.Ybulkmvg.Retry
