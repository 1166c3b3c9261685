/-
  '(*node).send' over the stand-in network, of a node without links.
-/
import Derived.Test.YbulkmvgNet
import Derived.Deep.QuietTactic
import Derived.BigQuiet
import Derived.Deep.RegionHeld3
namespace Go.Proofs.Ybulkmvg.Send
open Go.RowKit Go.Proofs.Ybulkmvg.Net

theorem look_nil (w : World) (k : ByteArray) : (Instr.lookup 50 (.map none) (.string k) false).run Yba.prog w = .ok (.agg #[.map none, .int .i64 0]) w := by
  kernel_rfl

set_option maxHeartbeats 400000 in
theorem untold_any (N : Nat) (peer : ByteArray) (w : World) (c13 : w.cell? ⟨N, 13, none⟩ = some (.int .i64 0)) (c14 : w.cell? ⟨N, 14, none⟩ = some (.map none)) :
    Calls Yba.prog 13 #[.pointer (some ⟨N, 10, none⟩), .string peer] w fun e w' => e = .returned (.slice none 0 0) ∧ Below w.heap.size w w' := by
  have hN := block_lt_of_cell c13
  have hl := fun w => look_nil w peer
  go_enter Yba.func13, Yba.ntmps13
  go_wp2_with fail
  go_quiet (fail)
  go_wp2_with fail
  go_ret
  exact ⟨rfl, below_drewN ((Below.refl _ _).alloc (Nat.le_refl _) _) _⟩

/-- The names by which a body calls methods on interface values, in the order of its text. -/
def invokes : Code → List String
  | .region _ ops _ => ops.toList.filterMap fun o => match o.op with
    | .call c => match c.callee with
      | .invoke _ s => some s
      | _ => none
    | _ => none
  | .seq a b => invokes a ++ invokes b
  | .cond _ a b => invokes a ++ invokes b
  | .block _ c => invokes c
  | .loop c => invokes c
  | .scope c => invokes c
  | _ => []
def invoked (f : Func) (i : Nat) : String := ((f.body.map invokes).getD []).getD i ""

theorem method_send (a : Addr) (w : World) : (method 339 34 (.pointer (some a)) (invoked Yba.f10 0)).run Yba.prog w = .ok (56, .pointer (some a)) w := by kernel_rfl
theorem method_reaches (a : Addr) (w : World) : (method 339 34 (.pointer (some a)) (invoked Yba.f10 1)).run Yba.prog w = .ok (55, .pointer (some a)) w := by kernel_rfl

theorem reaches_any (a b : Value) (w : World) : Calls Yba.prog 55 #[a, b] w fun e w' => e = .returned (.bool true) ∧ w' = w := by
  go_enter Yba.func55, Yba.ntmps55
  go_wp2_with fail
  go_ret
  exact ⟨rfl, rfl⟩

set_option maxRecDepth 100000 in
set_option maxHeartbeats 1000000 in
theorem send_self (B W N j : Nat) (xs : List Value) (w : World) (name m1 m2 m3 m4 : ByteArray) (m0 m5 : Int) (m6 : ByteArray) (m7 : Int) (b1 b2 b3 b4 b5 : Bool) (p1 p2 : Option Addr) (hlog : Log B W w j xs) (hj : j ≤ 2000) (hBW : B ≤ W)
    (c0 : w.cell? ⟨N, 0, none⟩ = some (.string name)) (c1 : w.cell? ⟨N, 1, none⟩ = some (.iface 34 (.pointer (some ⟨W, 0, none⟩)))) (hto : m2.toList = name.toList) :
    Calls Yba.prog 10 #[.pointer (some ⟨N, 0, none⟩), .agg #[.int .i64 m0, .string m1, .string m2, .string m3, .string m4, .int .i64 m5, .string m6, .int .i64 m7, .bool b1, .bool b2, .bool b3, .bool b4, .bool b5, .pointer p1, .pointer p2]] w fun e w' =>
      e = .returned (.tuple #[]) ∧ Log B W w' (j + 1) (xs ++ [.int .i64 m0, .string name, .string m2, .string ⟨#[]⟩, .string m4, .int .i64 m5, .string m6, .int .i64 m7, .bool b1, .bool b2, .bool b3, .bool b4, .bool b5, .pointer p1, .pointer p2]) ∧ Kept B W w w' := by
  have hN := block_lt_of_cell c0
  have HLB : Hid (B < w.heap.size) := by obtain ⟨_, _, h, _⟩ := hlog; exact Nat.lt_of_le_of_lt hBW (lt_of_block h)
  have HL := hide hlog
  clear hlog
  have ht : (m2.toList == name.toList) = true := by simp [hto]
  have HT := hide hto
  clear hto
  have hms := fun w => method_send ⟨W, 0, none⟩ w
  conv at hms => enter [w, 1, 2, 4]; whnf
  go_enter Yba.func10, Yba.ntmps10
  go_wp2_with fail
  go_quiet (fail)
  go_wp2_with fail
  go_region_with (first | (go_at_call 56; refine (netsend_any B W j xs _ _ _ _ _ _ _ _ _ _ _ _ _ _ _ _ (HL.out.of_below (Below.drew (below_drewN ((Below.refl _ _).alloc (Nat.le_refl _) _) _))) hj hBW).mono ?_; rintro e w1 ⟨rfl, hlog, hkept⟩) | fail)
  all_goals
    clear c0 c1 ht HT HL hms
    go_wp2_with fail
    refine bodyPost_ret (v := .tuple #[]) (by simp [results, Yba.results10, go_sem]) rfl ⟨rfl, hlog, ?_⟩
    exact (Kept.of_below (by have := HLB.out; omega) (Below.drew (below_drewN ((Below.refl _ _).alloc (Nat.le_refl _) _) _))).trans hkept

set_option maxRecDepth 100000 in
set_option maxHeartbeats 1000000 in
theorem send_other (B W N j : Nat) (xs : List Value) (w : World) (name m1 m2 m3 m4 : ByteArray) (m0 m5 : Int) (m6 : ByteArray) (m7 : Int) (b1 b2 b3 b4 b5 : Bool) (p1 p2 : Option Addr) (hlog : Log B W w j xs) (hj : j ≤ 2000) (hBW : B ≤ W)
    (c0 : w.cell? ⟨N, 0, none⟩ = some (.string name)) (c1 : w.cell? ⟨N, 1, none⟩ = some (.iface 34 (.pointer (some ⟨W, 0, none⟩)))) (c13 : w.cell? ⟨N, 13, none⟩ = some (.int .i64 0)) (c14 : w.cell? ⟨N, 14, none⟩ = some (.map none)) (hto : ¬ m2.toList = name.toList) :
    Calls Yba.prog 10 #[.pointer (some ⟨N, 0, none⟩), .agg #[.int .i64 m0, .string m1, .string m2, .string m3, .string m4, .int .i64 m5, .string m6, .int .i64 m7, .bool b1, .bool b2, .bool b3, .bool b4, .bool b5, .pointer p1, .pointer p2]] w fun e w' =>
      e = .returned (.tuple #[]) ∧ Log B W w' (j + 1) (xs ++ [.int .i64 m0, .string name, .string m2, .string ⟨#[]⟩, .string m4, .int .i64 m5, .string m6, .int .i64 m7, .bool b1, .bool b2, .bool b3, .bool b4, .bool b5, .pointer p1, .pointer p2]) ∧ Kept B W w w' := by
  have hN := block_lt_of_cell c0
  have HLB : Hid (B < w.heap.size) := by obtain ⟨_, _, h, _⟩ := hlog; exact Nat.lt_of_le_of_lt hBW (lt_of_block h)
  have HL := hide hlog
  clear hlog
  have ht : (m2.toList == name.toList) = false := by simp [hto]
  have HT := hide hto
  clear hto
  have hms := fun w => method_send ⟨W, 0, none⟩ w
  conv at hms => enter [w, 1, 2, 4]; whnf
  have hmr := fun w => method_reaches ⟨W, 0, none⟩ w
  conv at hmr => enter [w, 1, 2, 4]; whnf
  go_enter Yba.func10, Yba.ntmps10
  go_wp2_with fail
  go_quiet (fail)
  go_wp2_with fail
  go_region_held3 (fun w' => w'.cell? ⟨N, 1, none⟩ = some (.iface 34 (.pointer (some ⟨W, 0, none⟩))) ∧ w'.cell? ⟨w.heap.size, 2, none⟩ = some (.string m2)) (go_keep) (first | (go_at_call 55; refine (reaches_any _ _ _).mono ?_; rintro e w1 ⟨rfl, rfl⟩) | fail)
  go_wp2_with fail
  have hb0 : Below w.heap.size w ((w.alloc (.cells #[.int .i64 m0, .string name, .string m2, .string ⟨#[]⟩, .string m4, .int .i64 m5, .string m6, .int .i64 m7, .bool b1, .bool b2, .bool b3, .bool b4, .bool b5, .pointer p1, .pointer p2] 98)).drewN (nq + 1)) := below_drewN ((Below.refl _ _).alloc (Nat.le_refl _) _) _
  have HB0 := hide hb0
  clear hb0
  go_region_with (first | (go_at_call 13; refine (untold_any N _ _ (cell_later (Below.drew HB0.out) c13) (cell_later (Below.drew HB0.out) c14)).mono ?_; rintro e w1 ⟨rfl, hb1⟩) | fail)
  have hbx : w1.heap[w.heap.size]? = some (.cells #[.int .i64 m0, .string name, .string m2, .string ⟨#[]⟩, .string m4, .int .i64 m5, .string m6, .int .i64 m7, .bool b1, .bool b2, .bool b3, .bool b4, .bool b5, .pointer p1, .pointer p2] 98 (0, 0)) := by
    rw [hb1.block _ (by simp)]
    exact heap_alloc_new w _
  have hb2 : Below w.heap.size w w1 := HB0.out.trans (Below.trans (Below.refl _ _).drew (hb1.mono (by simp)))
  have d1 := cell_later hb2 c1
  have hcx := fun i => cell_of_row w1 w.heap.size i _ _ _ hbx
  have HLL := hide (HL.out.of_below hb2)
  have HKB := hide hb2
  clear c0 c1 c13 c14 hb1 HB0 HL hb2 hbx ht hmr
  go_wp2_with fail
  refine wp_loop_rounds 1 ?_
  rw [rounds_succ]
  go_wp2_with fail
  go_region_with (first | (go_at_call 56; refine (netsend_any B W j xs _ _ _ _ _ _ _ _ _ _ _ _ _ _ _ _ (HLL.out.of_below (Below.drew (Below.refl _ _))) hj hBW).mono ?_; rintro e w2 ⟨rfl, hlog, hkept⟩) | fail)
  all_goals
    go_wp2_with fail
    go_end0
    exact ⟨rfl, hlog, (Kept.of_below (by have := HLB.out; omega) HKB.out).trans ((Kept.of_below (by have := HLB.out; have := HKB.out.size; omega) (Below.drew (Below.refl _ _))).trans hkept)⟩

end Go.Proofs.Ybulkmvg.Send
