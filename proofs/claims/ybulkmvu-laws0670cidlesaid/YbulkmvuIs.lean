/-
  What 'zzs0670cis' and 'zzs0670coffs' answer.
-/
import Derived.Test.YbulkmvuQueue
namespace Go.Proofs.Ybulkmvu.Irmb
open Go.RowKit Go.Proofs.Ybulkmvu.Ev Go.Proofs.Ybulkmvu.Queue

/-- A row of n integers at a slice's address. -/
def RowAt (k : IntKind) (w : World) (P : Nat → Prop) (a : Option Addr) (n : Nat) (z : Nat → Int) : Prop :=
  ∃ b off, (0 < n → a = some ⟨b, off, none⟩ ∧ P b ∧ b < w.heap.size) ∧ ∀ j, j < n → w.cell? ⟨b, off + j, none⟩ = some (.int k (z j))

set_option maxRecDepth 100000 in
set_option maxHeartbeats 1000000 in
/-- An entry is what was asked for. -/
theorem is_any (w : World) (P Q : Nat → Prop) (base : Int) (a a' : Option Addr) (n c c' : Nat) (z : Nat → Int) (hn : n ≤ 1024) (h1 : RowAt .u16 w P a n z) (h2 : RowAt .u16 w Q a' n z) :
    Calls Yba.prog 13 #[.agg #[.int .u64 base, .slice a n c], .int .u64 base, .slice a' n c'] w fun e w' => e = .returned (.bool true) ∧ Below w.heap.size w w' := by
  obtain ⟨b, off, ha, hb⟩ := h1
  obtain ⟨b', off', ha', hb'⟩ := h2
  have HA := hide ha
  have HB := hide hb
  have HA' := hide ha'
  have HB' := hide hb'
  clear ha hb ha' hb'
  go_enter Yba.func13, Yba.ntmps13
  go_wp2_with fail
  go_loopw [22] (fun jv wr => ∃ (j : Nat), jv = .int .i64 j ∧ j ≤ n ∧ Below (w.heap.size + 1) (w.alloc (.cells #[.int .u64 base, .slice a n c] 63)) wr) (fun jv _ => n - (intOf jv).toNat)
  case atStart => exact ⟨0, rfl, by omega, Below.refl _ _⟩
  case round =>
    obtain ⟨j, rfl, hj, hbl⟩ := hrel
    have hbw : Below w.heap.size w wr := ((Below.refl _ _).alloc (Nat.le_refl _) _).trans (hbl.mono (by omega))
    by_cases hlt : j < n
    · obtain ⟨rfl, -, hl⟩ := HA.out (by omega)
      obtain ⟨rfl, -, hl'⟩ := HA'.out (by omega)
      have c1 : wr.cell? ⟨b, off + j, none⟩ = some (.int .u16 (z j)) := (hbw.cell hl).trans (HB.out j hlt)
      have c2 : wr.cell? ⟨b', off' + j, none⟩ = some (.int .u16 (z j)) := (hbw.cell hl').trans (HB'.out j hlt)
      have c3 : wr.cell? ⟨w.heap.size, 1, none⟩ = some (.slice (some ⟨b, off, none⟩) n c) := by
        rw [hbl.cell (by simp), cell_of_row _ _ _ _ _ _ (heap_alloc_new w _)]; rfl
      have HBL := hide hbl
      clear hbl hl hl' hbw
      go_wp2_with fail
      go_quiet (fail)
      go_wp2_with fail
      go_roundw
      case rel => exact ⟨j + 1, by go_num, by omega, below_drewN HBL.out _⟩
      case measure => simp [intOf]; omega
    · have HBW := hide hbw
      clear hbl hbw
      go_wp2_with fail
      go_ret
      exact ⟨rfl, HBW.out⟩

set_option maxRecDepth 100000 in
set_option maxHeartbeats 1000000 in
theorem offs_in (w : World) (b off : Nat) (n c i : Nat) (v : Value) (hi : i < n) (_hn : n ≤ 1024) (h : w.cell? ⟨b, off + i, none⟩ = some v) (hv : ∃ a n c, v = .slice a n c) :
    Calls Yba.prog 14 #[.slice (some ⟨b, off, none⟩) n c, .int .i64 i] w fun e w' => e = .returned v ∧ w' = w := by
  obtain ⟨a, m, d, rfl⟩ := hv
  go_enter Yba.func14, Yba.ntmps14
  go_wp2_with fail
  go_ret
  exact ⟨rfl, rfl⟩

set_option maxRecDepth 100000 in
set_option maxHeartbeats 1000000 in
theorem offs_out (w : World) (a : Option Addr) (n c i : Nat) (hi : n ≤ i) (_hn : n ≤ 1024) (_hi2 : i ≤ 2000) :
    Calls Yba.prog 14 #[.slice a n c, .int .i64 i] w fun e w' => e = .returned (.slice none 0 0) ∧ w' = w := by
  go_enter Yba.func14, Yba.ntmps14
  go_wp2_with fail
  go_ret
  exact ⟨rfl, rfl⟩
end Go.Proofs.Ybulkmvu.Irmb
