/-
  '(*traceParser).parse' ahead of the header, and 'LawS0670AHeader'.
-/
import Derived.Test.YbulkmvuFmtFacts
import Derived.Deep.RegionWith
import Derived.Deep.QuietTactic
import Derived.BigQuiet
import Derived.OwnWalk
import Derived.Laws.AppendOwn
import Derived.Laws.AppendOwnNone
import Derived.Below
import Derived.WalkSmall
import Derived.WalkSpells
namespace Go.Proofs.YbulkmvuFmt
open Go.RowKit Go.Extern.Stop Go.Stop Go.Extern

/-- The header's word. -/
abbrev hd : ByteArray := ⟨#[112, 97, 103, 101, 119, 114, 105, 103, 104, 116, 45, 116, 114, 97, 99, 101]⟩
/-- A parser that has read nothing. -/
def fresh (started : Bool) : Array Value := #[.slice none 0 0, .slice none 0 0, .int .i64 4, .bool started, .slice none 0 0]

theorem hide {p : Prop} (h : p) : Hid p := h

theorem boxed_cell (w : World) (v : Value) (t : TypeId) : (w.alloc (.cells #[v] t)).cell? ⟨w.heap.size, 0, none⟩ = some v := by
  simp

theorem boxed_cell2 (w : World) (v u : Value) (t : TypeId) : (w.alloc (.cells #[v, u] t)).cell? ⟨w.heap.size, 0, none⟩ = some v ∧ (w.alloc (.cells #[v, u] t)).cell? ⟨w.heap.size, 1, none⟩ = some u := by
  simp

theorem below_boxed {w w1 : World} (hb : Below w.heap.size w w1) (o : Obj) (wx : World) (h : Below (w1.alloc o).heap.size (w1.alloc o) wx) : Below w.heap.size w wx := by
  have h1 : Below w.heap.size w (w1.alloc o) := hb.alloc hb.size _
  exact h1.trans (h.mono h1.size)

set_option maxHeartbeats 4000000 in
set_option maxRecDepth 100000 in
theorem parse_kw (F : Interp) (w : World) (B b off n c : Nat) (kw : ByteArray) (hF : F.answers w.tape) (hn : 1 ≤ n) (hn2 : n ≤ 2000) (hc : n ≤ c) (h3 : w.cell? ⟨B, 3, none⟩ = some (.bool false)) (hk : w.cell? ⟨b, off, none⟩ = some (.string kw)) (hne : (kw.toList == [112, 97, 103, 101, 119, 114, 105, 103, 104, 116, 45, 116, 114, 97, 99, 101]) = false) :
    Calls Ybaf.prog 5 #[.pointer (some ⟨B, 0, none⟩), .slice (some ⟨b, off, none⟩) n c, .int .i64 1] w fun e w' => (∃ a, e = .returned (.iface 75 (.pointer (some a)))) ∧ Below w.heap.size w w' := by
  have hp0 : (0 : Int) < (n : Int) := by omega
  have hp1 : (1 : Int) ≤ (n : Int) := by omega
  have hp2 : (1 : Int) ≤ (c : Int) := by omega
  have hF2 : F.answers w.drew.tape := hF
  go_enter Ybaf.func5, Ybaf.ntmps5
  go_wp2_with fail
  go_quiet (fail)
  generalize hw1 : w.drewN nq = w1
  have hb1 : Below w.heap.size w w1 := by rw [← hw1]; exact below_drewN (Below.refl _ _) _
  have g3 : w1.cell? ⟨B, 3, none⟩ = some (.bool false) := by rw [← hw1]; exact h3
  have hF1 : F.answers w1.tape := by rw [← hw1]; exact hF
  have HB1 := hide hb1
  clear hw1 hb1 h3 hk
  go_wp2_with fail
  all_goals (
    refine (errorfA F _ _ rfl w1.heap.size _ (by exact hF1) (boxed_cell w1 _ 20)).mono ?_
    rintro e wx ⟨rfl, hbx⟩
    have HBX : Hid (Below w.heap.size w wx) := hide (below_boxed HB1.out _ wx hbx)
    clear hbx
    go_wp2_with fail
    go_ret
    exact ⟨⟨_, rfl⟩, HBX.out⟩)

set_option maxHeartbeats 800000 in
set_option maxRecDepth 100000 in
theorem parse_len (F : Interp) (w : World) (B b off n c : Nat) (hF : F.answers w.tape) (hn : 1 ≤ n) (hn2 : n ≤ 2000) (hc : n ≤ c) (h3 : w.cell? ⟨B, 3, none⟩ = some (.bool false)) (hk : w.cell? ⟨b, off, none⟩ = some (.string ⟨#[112, 97, 103, 101, 119, 114, 105, 103, 104, 116, 45, 116, 114, 97, 99, 101]⟩)) (hne : n ≠ 2) :
    Calls Ybaf.prog 5 #[.pointer (some ⟨B, 0, none⟩), .slice (some ⟨b, off, none⟩) n c, .int .i64 1] w fun e w' => (∃ a, e = .returned (.iface 75 (.pointer (some a)))) ∧ Below w.heap.size w w' := by
  have hp0 : (0 : Int) < (n : Int) := by omega
  have hp1 : (1 : Int) ≤ (n : Int) := by omega
  have hp2 : (1 : Int) ≤ (c : Int) := by omega
  obtain ⟨m, hm⟩ : ∃ m, n = m + 1 := ⟨n - 1, by omega⟩
  subst hm
  have hm1 : ¬ (m : Int) = 1 := by omega
  go_enter Ybaf.func5, Ybaf.ntmps5
  go_wp2_with fail
  go_quiet (fail)
  generalize hw1 : w.drewN nq = w1
  have hb1 : Below w.heap.size w w1 := by rw [← hw1]; exact below_drewN (Below.refl _ _) _
  have g3 : w1.cell? ⟨B, 3, none⟩ = some (.bool false) := by rw [← hw1]; exact h3
  have hF1 : F.answers w1.tape := by rw [← hw1]; exact hF
  have HB1 := hide hb1
  clear hw1 hb1 h3 hk
  go_wp2_with fail
  all_goals (
    refine (errorfB F _ w1.heap.size _ (by exact hF1) (boxed_cell w1 _ 20)).mono ?_
    rintro e wx ⟨rfl, hbx⟩
    have HBX : Hid (Below w.heap.size w wx) := hide (below_boxed HB1.out _ wx hbx)
    clear hbx
    go_wp2_with fail
    go_ret
    exact ⟨⟨_, rfl⟩, HBX.out⟩)

set_option maxHeartbeats 800000 in
set_option maxRecDepth 100000 in
theorem parse_ver (F : Interp) (w : World) (B b off c : Nat) (f1 : ByteArray) (hF : F.answers w.tape) (hc : 2 ≤ c) (h3 : w.cell? ⟨B, 3, none⟩ = some (.bool false)) (hk : w.cell? ⟨b, off, none⟩ = some (.string ⟨#[112, 97, 103, 101, 119, 114, 105, 103, 104, 116, 45, 116, 114, 97, 99, 101]⟩)) (hv : w.cell? ⟨b, off + 1, none⟩ = some (.string f1)) (hne : (f1.toList == [49]) = false) :
    Calls Ybaf.prog 5 #[.pointer (some ⟨B, 0, none⟩), .slice (some ⟨b, off, none⟩) 2 c, .int .i64 1] w fun e w' => (∃ a, e = .returned (.iface 75 (.pointer (some a)))) ∧ Below w.heap.size w w' := by
  have hp2 : (1 : Int) ≤ (c : Int) := by omega
  have hc1 : ¬ c = 1 := by omega
  go_enter Ybaf.func5, Ybaf.ntmps5
  go_wp2_with fail
  go_quiet (fail)
  generalize hw1 : w.drewN nq = w1
  have hb1 : Below w.heap.size w w1 := by rw [← hw1]; exact below_drewN (Below.refl _ _) _
  have g3 : w1.cell? ⟨B, 3, none⟩ = some (.bool false) := by rw [← hw1]; exact h3
  have gv : w1.cell? ⟨b, off + 1, none⟩ = some (.string f1) := by rw [← hw1]; exact hv
  have hF1 : F.answers w1.tape := by rw [← hw1]; exact hF
  have HB1 := hide hb1
  clear hw1 hb1 h3 hv hk
  go_wp2_with fail
  go_quiet ((go_at_call 6; exact Calls.quiet_of_same (itoa1 _)))
  generalize hw2 : w1.drewN nq = w2
  have hb2 : Below w.heap.size w w2 := by rw [← hw2]; exact below_drewN HB1.out _
  have gv2 : w2.cell? ⟨b, off + 1, none⟩ = some (.string f1) := by rw [← hw2]; exact gv
  have hF2 : F.answers w2.tape := by rw [← hw2]; exact hF1
  have HB2 := hide hb2
  clear hw2 hb2 g3 gv
  go_wp2_with fail
  all_goals (
    refine (errorfC F _ _ w2.heap.size _ (by exact hF2) (boxed_cell2 w2 _ _ 20).1 (boxed_cell2 w2 _ _ 20).2).mono ?_
    rintro e wx ⟨rfl, hbx⟩
    have HBX : Hid (Below w.heap.size w wx) := hide (below_boxed HB2.out _ wx hbx)
    clear hbx
    go_wp2_with fail
    go_ret
    exact ⟨⟨_, rfl⟩, HBX.out⟩)

set_option maxHeartbeats 800000 in
set_option maxRecDepth 100000 in
theorem parse_ok (w : World) (B b off c : Nat) (hc : 2 ≤ c) (h3 : w.cell? ⟨B, 3, none⟩ = some (.bool false)) (hf : w.frozen? ⟨B, 3, none⟩ = false) (hk : w.cell? ⟨b, off, none⟩ = some (.string ⟨#[112, 97, 103, 101, 119, 114, 105, 103, 104, 116, 45, 116, 114, 97, 99, 101]⟩)) (hv : w.cell? ⟨b, off + 1, none⟩ = some (.string ⟨#[49]⟩)) :
    Calls Ybaf.prog 5 #[.pointer (some ⟨B, 0, none⟩), .slice (some ⟨b, off, none⟩) 2 c, .int .i64 1] w fun e w' => e = .returned .nilIface ∧ ∃ m, w' = (w.drewN m).setCell ⟨B, 3, none⟩ (.bool true) := by
  have hp2 : (1 : Int) ≤ (c : Int) := by omega
  have hc1 : ¬ c = 1 := by omega
  go_enter Ybaf.func5, Ybaf.ntmps5
  go_wp2_with fail
  go_quiet (fail)
  generalize hw1 : w.drewN nq = w1
  have g3 : w1.cell? ⟨B, 3, none⟩ = some (.bool false) := by rw [← hw1]; exact h3
  have g4 : ∀ m, (w1.drewN m).frozen? ⟨B, 3, none⟩ = false := by intro m; rw [← hw1]; exact hf
  have gv : w1.cell? ⟨b, off + 1, none⟩ = some (.string ⟨#[49]⟩) := by rw [← hw1]; exact hv
  have HW1 := hide hw1
  clear hw1 h3 hv hk
  go_wp2_with fail
  go_quiet ((go_at_call 6; exact Calls.quiet_of_same (itoa1 _)))
  rename_i nq2
  go_wp2_with fail
  go_ret
  exact ⟨rfl, _, by rw [← HW1.out, World.drewN_drewN]⟩
end Go.Proofs.YbulkmvuFmt
