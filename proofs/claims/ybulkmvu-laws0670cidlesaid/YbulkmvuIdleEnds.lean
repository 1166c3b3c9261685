/-
  'LawS0670CIdle' where it answers at once.
-/
import Derived.Test.YbulkmvuIdlePlain
namespace Go.Proofs.Ybulkmvu.Irmb
open Go.RowKit Go.Proofs.Ybulkmvu.Ev Go.Proofs.Ybulkmvu.Queue

/-- The offsets as they come in, of whatever length. -/
def OffsRaw (w : World) (a : Option Addr) (m : Nat) (sl : Nat → Option Addr) (ln cp : Nat → Nat) (os : Nat → Nat → Int) : Prop :=
  ∃ b off, (0 < m → a = some ⟨b, off, none⟩ ∧ b < w.heap.size) ∧ ∀ j, j < m → w.cell? ⟨b, off + j, none⟩ = some (.slice (sl j) (ln j) (cp j)) ∧
    (sl j = none ∧ ln j = 0 ∧ cp j = 0 ∨ ∃ x, sl j = some x) ∧ RowAt .u16 w (fun _ => True) (sl j) (ln j) (os j)

theorem offsIn_of_raw {w : World} {a : Option Addr} {m : Nat} {sl : Nat → Option Addr} {ln cp : Nat → Nat} {os : Nat → Nat → Int} (h : OffsRaw w a m sl ln cp os) (hl : ∀ j, j < m → ln j ≤ 1024) : OffsIn w a m sl ln cp os := by
  obtain ⟨b, off, h1, h2⟩ := h
  exact ⟨b, off, h1, fun j hj => ⟨(h2 j hj).1, (h2 j hj).2.1, hl j hj, (h2 j hj).2.2⟩⟩

set_option maxRecDepth 100000 in
set_option maxHeartbeats 1000000 in
theorem long_any (w : World) (idle : Bool) (a0 oa : Option Addr) (n c0 m co q : Nat) (sel wb : Int) (sl : Nat → Option Addr) (ln cp : Nat → Nat) (os : Nat → Nat → Int) (hn : n ≤ 1024) (hm : m ≤ 1024) (hq : q < m) (hl : 1024 < ln q) (h1 : OffsRaw w oa m sl ln cp os) :
    Calls Yba.prog 5 #[.bool idle, .slice a0 n c0, .slice oa m co, .int .u8 sel, .int .i64 wb] w fun e w' => e = .returned (.bool true) ∧ Below w.heap.size w w' := by
  have H1 := hide h1
  clear h1
  go_enter Yba.func5, Yba.ntmps5
  go_wp2_with fail
  go_loopw [32] (fun jv wf => ∃ (k : Nat), jv = .int .i64 k ∧ k ≤ q ∧ w = wf) (fun jv _ => m - (intOf jv).toNat)
  case atStart => exact ⟨0, rfl, by omega, rfl⟩
  case round =>
    obtain ⟨k, rfl, hk, hwr⟩ := hrel
    subst hwr
    have hlt : k < m := by omega
    obtain ⟨b, off, ha, hc⟩ := H1.out
    obtain ⟨rfl, -⟩ := ha (by omega)
    obtain ⟨c1, -, -⟩ := hc k hlt
    clear ha hc
    by_cases hb : ln k ≤ 1024
    · have hkq : k ≠ q := fun h => by rw [h] at hb; omega
      go_wp2_with fail
      go_roundw
      case rel => exact ⟨k + 1, by go_num, by omega, trivial⟩
      case measure => simp [intOf]; omega
    · have hb' : 1024 < ln k := by omega
      go_wp2_with fail
      go_ret
      exact ⟨rfl, Below.refl _ _⟩

set_option maxRecDepth 100000 in
set_option maxHeartbeats 1000000 in
theorem big_any (w : World) (idle : Bool) (a0 oa : Option Addr) (n c0 m co : Nat) (sel wb : Int) (h : 1024 < n ∨ 1024 < m) :
    Calls Yba.prog 5 #[.bool idle, .slice a0 n c0, .slice oa m co, .int .u8 sel, .int .i64 wb] w fun e w' => e = .returned (.bool true) ∧ Below w.heap.size w w' := by
  by_cases hn : 1024 < n
  · go_enter Yba.func5, Yba.ntmps5
    go_wp2_with fail
    go_ret
    exact ⟨rfl, Below.refl _ _⟩
  · have hm : 1024 < m := by omega
    go_enter Yba.func5, Yba.ntmps5
    go_wp2_with fail
    go_ret
    exact ⟨rfl, Below.refl _ _⟩
end Go.Proofs.Ybulkmvu.Irmb
