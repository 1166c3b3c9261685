/-
  The errors of a script's road.
-/
import Derived.Test.YbulkmvuFmtHead
namespace Go.Proofs
open Go.Extern.Stop Go.Stop Go.Extern

def Ybaf.shape2 : List UInt8 := [5, 5, 0, 0, 0, 0, 0, 0, 0, 105, 110, 116, 54, 52]
@[go_sem] theorem Ybaf.op2_100w (name : String) (x : Int) (w : World) : (FmtStop.operand name true 100 false (.iface 2 (.int .i64 x))).run Ybaf.prog w = .ok (Ybaf.shape2, Go.Extern.Stop.digits 8 (x % 2 ^ 64).toNat) w := by kernel_rfl
def Ybaf.shape36 : List UInt8 := [9, 6, 0, 0, 0, 0, 0, 0, 0, 117, 105, 110, 116, 54, 52]
@[go_sem] theorem Ybaf.op36_100w (name : String) (x : Int) (w : World) : (FmtStop.operand name true 100 false (.iface 36 (.int .u64 x))).run Ybaf.prog w = .ok (Ybaf.shape36, Go.Extern.Stop.digits 8 (x % 2 ^ 64).toNat) w := by kernel_rfl
@[go_sem] theorem Ybaf.op36_120sw (name : String) (x : Int) (w : World) : (FmtStop.operand name true 120 true (.iface 36 (.int .u64 x))).run Ybaf.prog w = .ok (Ybaf.shape36, Go.Extern.Stop.digits 8 (x % 2 ^ 64).toNat) w := by kernel_rfl

namespace YbulkmvuFmt
open Go.RowKit

theorem new_any (s : ByteArray) (w : World) : Calls Ybaf.prog 10 #[.string s] w fun e w' => (∃ a, e = .returned (.iface 75 (.pointer (some a)))) ∧ Below w.heap.size w w' := by
  go_enter Ybaf.func10, Ybaf.ntmps10
  go_wp2
  go_ret
  exact ⟨⟨_, rfl⟩, (Below.refl _ _).alloc (Nat.le_refl _) _⟩

theorem err_s (F : Interp) (f s : ByteArray) (blk : Nat) (w : World) (hF : F.answers w.tape) (hp : ∀ w, (FmtDoors.printed f 1).run Ybaf.prog w = .ok [(0, 115, false)] w) (hc0 : w.cell? ⟨blk, 0, none⟩ = some (.iface 9 (.string s))) :
    Calls Ybaf.prog 9 #[.string f, .slice (some ⟨blk, 0, none⟩) 1 1] w fun e w' => (∃ a, e = .returned (.iface 75 (.pointer (some a)))) ∧ Below w.heap.size w w' := by
  have hF' : ∀ i name reading k range, w.tape i (.extern (word name reading k) range) = F name reading k := hF
  go_enter Ybaf.func9, Ybaf.ntmps9
  go_wp2
  go_ret
  exact ⟨⟨_, rfl⟩, ((Below.refl _ _).alloc (Nat.le_refl _) _).drew⟩

theorem err_sdsd (F : Interp) (f s s' : ByteArray) (x y : Int) (blk : Nat) (w : World) (hF : F.answers w.tape) (hp : ∀ w, (FmtDoors.printed f 4).run Ybaf.prog w = .ok [(0, 115, false), (1, 100, false), (2, 115, false), (3, 100, false)] w)
    (hc0 : w.cell? ⟨blk, 0, none⟩ = some (.iface 9 (.string s))) (hc1 : w.cell? ⟨blk, 1, none⟩ = some (.iface 2 (.int .i64 x))) (hc2 : w.cell? ⟨blk, 2, none⟩ = some (.iface 9 (.string s'))) (hc3 : w.cell? ⟨blk, 3, none⟩ = some (.iface 3 (.int .i64 y))) :
    Calls Ybaf.prog 9 #[.string f, .slice (some ⟨blk, 0, none⟩) 4 4] w fun e w' => (∃ a, e = .returned (.iface 75 (.pointer (some a)))) ∧ Below w.heap.size w w' := by
  have hF' : ∀ i name reading k range, w.tape i (.extern (word name reading k) range) = F name reading k := hF
  go_enter Ybaf.func9, Ybaf.ntmps9
  go_wp2
  go_ret
  exact ⟨⟨_, rfl⟩, ((Below.refl _ _).alloc (Nat.le_refl _) _).drew⟩

theorem err_sdd (F : Interp) (f s : ByteArray) (x y : Int) (blk : Nat) (w : World) (hF : F.answers w.tape) (hp : ∀ w, (FmtDoors.printed f 3).run Ybaf.prog w = .ok [(0, 115, false), (1, 100, false), (2, 100, false)] w)
    (hc0 : w.cell? ⟨blk, 0, none⟩ = some (.iface 9 (.string s))) (hc1 : w.cell? ⟨blk, 1, none⟩ = some (.iface 3 (.int .i64 x))) (hc2 : w.cell? ⟨blk, 2, none⟩ = some (.iface 3 (.int .i64 y))) :
    Calls Ybaf.prog 9 #[.string f, .slice (some ⟨blk, 0, none⟩) 3 3] w fun e w' => (∃ a, e = .returned (.iface 75 (.pointer (some a)))) ∧ Below w.heap.size w w' := by
  have hF' : ∀ i name reading k range, w.tape i (.extern (word name reading k) range) = F name reading k := hF
  go_enter Ybaf.func9, Ybaf.ntmps9
  go_wp2
  go_ret
  exact ⟨⟨_, rfl⟩, ((Below.refl _ _).alloc (Nat.le_refl _) _).drew⟩

theorem err_x (F : Interp) (f : ByteArray) (x : Int) (blk : Nat) (w : World) (hF : F.answers w.tape) (hp : ∀ w, (FmtDoors.printed f 1).run Ybaf.prog w = .ok [(0, 120, true)] w) (hc0 : w.cell? ⟨blk, 0, none⟩ = some (.iface 36 (.int .u64 x))) :
    Calls Ybaf.prog 9 #[.string f, .slice (some ⟨blk, 0, none⟩) 1 1] w fun e w' => (∃ a, e = .returned (.iface 75 (.pointer (some a)))) ∧ Below w.heap.size w w' := by
  have hF' : ∀ i name reading k range, w.tape i (.extern (word name reading k) range) = F name reading k := hF
  go_enter Ybaf.func9, Ybaf.ntmps9
  go_wp2
  go_ret
  exact ⟨⟨_, rfl⟩, ((Below.refl _ _).alloc (Nat.le_refl _) _).drew⟩

theorem err_dx (F : Interp) (f : ByteArray) (x y : Int) (blk : Nat) (w : World) (hF : F.answers w.tape) (hp : ∀ w, (FmtDoors.printed f 2).run Ybaf.prog w = .ok [(0, 100, false), (1, 120, true)] w) (hc0 : w.cell? ⟨blk, 0, none⟩ = some (.iface 36 (.int .u64 x))) (hc1 : w.cell? ⟨blk, 1, none⟩ = some (.iface 36 (.int .u64 y))) :
    Calls Ybaf.prog 9 #[.string f, .slice (some ⟨blk, 0, none⟩) 2 2] w fun e w' => (∃ a, e = .returned (.iface 75 (.pointer (some a)))) ∧ Below w.heap.size w w' := by
  have hF' : ∀ i name reading k range, w.tape i (.extern (word name reading k) range) = F name reading k := hF
  go_enter Ybaf.func9, Ybaf.ntmps9
  go_wp2
  go_ret
  exact ⟨⟨_, rfl⟩, ((Below.refl _ _).alloc (Nat.le_refl _) _).drew⟩
end YbulkmvuFmt
end Go.Proofs
