/-
  The closed facts for the walk over fmt's stopped front (after the kit's IpowFmt, turned to this program).
-/
import Derived.Test.YbulkmvuFmtRows
import Derived.Stop.CallBack
import Derived.Stop.IfaceNil
import Derived.Stop.FmtTextLaws
import GoSem.ClaimData
import Derived.WalkKit
namespace Go.Proofs
open Go.Extern.Stop Go.Stop Go.Extern

@[go_sem] theorem Ybaf.call18 (args : Array Value) (w : World) : (callFunc 18 args).run Ybaf.prog w = ((FmtStop.errorf #[9, 73] #[31] args).run Ybaf.prog w).andThen fun v w' => .ok (.value v) w' :=
  run_callFunc_extern Ybaf.func18 (by kernel_rfl) (by kernel_rfl) (by kernel_rfl) (by kernel_rfl) args w
@[go_sem] theorem Ybaf.guard (name : String) (w : World) : (FmtStop.guard name).run Ybaf.prog w = .ok () w := by kernel_rfl

-- "expected %q before anything else"
@[go_sem] theorem Ybaf.fmtA (w : World) : (FmtDoors.printed ⟨#[101, 120, 112, 101, 99, 116, 101, 100, 32, 37, 113, 32, 98, 101, 102, 111, 114, 101, 32, 97, 110, 121, 116, 104, 105, 110, 103, 32, 101, 108, 115, 101]⟩ 1).run Ybaf.prog w = .ok [(0, 113, false)] w := by kernel_rfl
-- "%s takes one version number"
@[go_sem] theorem Ybaf.fmtB (w : World) : (FmtDoors.printed ⟨#[37, 115, 32, 116, 97, 107, 101, 115, 32, 111, 110, 101, 32, 118, 101, 114, 115, 105, 111, 110, 32, 110, 117, 109, 98, 101, 114]⟩ 1).run Ybaf.prog w = .ok [(0, 115, false)] w := by kernel_rfl
-- "trace version %q is not supported; this build reads version %d"
@[go_sem] theorem Ybaf.fmtC (w : World) : (FmtDoors.printed ⟨#[116, 114, 97, 99, 101, 32, 118, 101, 114, 115, 105, 111, 110, 32, 37, 113, 32, 105, 115, 32, 110, 111, 116, 32, 115, 117, 112, 112, 111, 114, 116, 101, 100, 59, 32, 116, 104, 105, 115, 32, 98, 117, 105, 108, 100, 32, 114, 101, 97, 100, 115, 32, 118, 101, 114, 115, 105, 111, 110, 32, 37, 100]⟩ 2).run Ybaf.prog w = .ok [(0, 113, false), (1, 100, false)] w := by kernel_rfl

def Ybaf.shape9 : List UInt8 := [12, 6, 0, 0, 0, 0, 0, 0, 0, 115, 116, 114, 105, 110, 103]
@[go_sem] theorem Ybaf.op9_113w (name : String) (x : ByteArray) (w : World) : (FmtStop.operand name true 113 false (.iface 9 (.string x))).run Ybaf.prog w = .ok (Ybaf.shape9, FmtStop.pack x.data.toList) w := by kernel_rfl
@[go_sem] theorem Ybaf.op9_115w (name : String) (x : ByteArray) (w : World) : (FmtStop.operand name true 115 false (.iface 9 (.string x))).run Ybaf.prog w = .ok (Ybaf.shape9, FmtStop.pack x.data.toList) w := by kernel_rfl
def Ybaf.shape3 : List UInt8 := [5, 3, 0, 0, 0, 0, 0, 0, 0, 105, 110, 116]
@[go_sem] theorem Ybaf.op3_100w (name : String) (x : Int) (w : World) : (FmtStop.operand name true 100 false (.iface 3 (.int .i64 x))).run Ybaf.prog w = .ok (Ybaf.shape3, Go.Extern.Stop.digits 8 (x % 2 ^ 64).toNat) w := by kernel_rfl
@[go_sem] theorem Ybaf.ptr75 (w : World) : (FmtStop.ptrTo "errors.errorString").run Ybaf.prog w = .ok 75 w := by kernel_rfl
@[go_sem] theorem Ybaf.elem75 (w : World) : (elemOf 75).run Ybaf.prog w = .ok 77 w := by kernel_rfl

namespace YbulkmvuFmt
open Go.RowKit

theorem errorfA (F : Interp) (f s : ByteArray) (hf : f = ⟨#[101, 120, 112, 101, 99, 116, 101, 100, 32, 37, 113, 32, 98, 101, 102, 111, 114, 101, 32, 97, 110, 121, 116, 104, 105, 110, 103, 32, 101, 108, 115, 101]⟩) (blk : Nat) (w : World) (hF : F.answers w.tape) (hc0 : w.cell? ⟨blk, 0, none⟩ = some (.iface 9 (.string s))) :
    Calls Ybaf.prog 9 #[.string f, .slice (some ⟨blk, 0, none⟩) 1 1] w fun e w' =>
      e = .returned (.iface 75 (.pointer (some ⟨w.heap.size, 0, none⟩))) ∧ Below w.heap.size w w' := by
  subst hf
  have hF' : ∀ i name reading k range, w.tape i (.extern (word name reading k) range) = F name reading k := hF
  go_enter Ybaf.func9, Ybaf.ntmps9
  go_wp2
  go_ret
  exact ⟨rfl, ((Below.refl _ _).alloc (Nat.le_refl _) _).drew⟩

theorem errorfB (F : Interp) (s : ByteArray) (blk : Nat) (w : World) (hF : F.answers w.tape) (hc0 : w.cell? ⟨blk, 0, none⟩ = some (.iface 9 (.string s))) :
    Calls Ybaf.prog 9 #[.string ⟨#[37, 115, 32, 116, 97, 107, 101, 115, 32, 111, 110, 101, 32, 118, 101, 114, 115, 105, 111, 110, 32, 110, 117, 109, 98, 101, 114]⟩, .slice (some ⟨blk, 0, none⟩) 1 1] w fun e w' =>
      e = .returned (.iface 75 (.pointer (some ⟨w.heap.size, 0, none⟩))) ∧ Below w.heap.size w w' := by
  have hF' : ∀ i name reading k range, w.tape i (.extern (word name reading k) range) = F name reading k := hF
  go_enter Ybaf.func9, Ybaf.ntmps9
  go_wp2
  go_ret
  exact ⟨rfl, ((Below.refl _ _).alloc (Nat.le_refl _) _).drew⟩

theorem errorfC (F : Interp) (s : ByteArray) (x : Int) (blk : Nat) (w : World) (hF : F.answers w.tape) (hc0 : w.cell? ⟨blk, 0, none⟩ = some (.iface 9 (.string s))) (hc1 : w.cell? ⟨blk, 1, none⟩ = some (.iface 3 (.int .i64 x))) :
    Calls Ybaf.prog 9 #[.string ⟨#[116, 114, 97, 99, 101, 32, 118, 101, 114, 115, 105, 111, 110, 32, 37, 113, 32, 105, 115, 32, 110, 111, 116, 32, 115, 117, 112, 112, 111, 114, 116, 101, 100, 59, 32, 116, 104, 105, 115, 32, 98, 117, 105, 108, 100, 32, 114, 101, 97, 100, 115, 32, 118, 101, 114, 115, 105, 111, 110, 32, 37, 100]⟩, .slice (some ⟨blk, 0, none⟩) 2 2] w fun e w' =>
      e = .returned (.iface 75 (.pointer (some ⟨w.heap.size, 0, none⟩))) ∧ Below w.heap.size w w' := by
  have hF' : ∀ i name reading k range, w.tape i (.extern (word name reading k) range) = F name reading k := hF
  go_enter Ybaf.func9, Ybaf.ntmps9
  go_wp2
  go_ret
  exact ⟨rfl, ((Below.refl _ _).alloc (Nat.le_refl _) _).drew⟩

theorem small1 (w : World) : Calls Ybaf.prog 24 #[.int .i64 1] w fun e w' => e = .returned (.string ⟨#[49]⟩) ∧ w' = w := by
  go_enter Ybaf.func24, Ybaf.ntmps24
  go_wp2
  go_ret
  exact ⟨rfl, rfl⟩

theorem format1 (w : World) : Calls Ybaf.prog 23 #[.int .i64 1, .int .i64 10] w fun e w' => e = .returned (.string ⟨#[49]⟩) ∧ w' = w := by
  go_enter Ybaf.func23, Ybaf.ntmps23
  go_wp2_with (go_at_call 24; refine (small1 _).mono ?_; rintro e w' ⟨rfl, rfl⟩)
  go_ret
  exact ⟨rfl, rfl⟩

theorem itoa16 (w : World) : Calls Ybaf.prog 16 #[.int .i64 1] w fun e w' => e = .returned (.string ⟨#[49]⟩) ∧ w' = w := by
  go_enter Ybaf.func16, Ybaf.ntmps16
  go_wp2_with (go_at_call 23; refine (format1 _).mono ?_; rintro e w' ⟨rfl, rfl⟩)
  go_ret
  exact ⟨rfl, rfl⟩

theorem itoa1 (w : World) : Calls Ybaf.prog 6 #[.int .i64 1] w fun e w' => e = .returned (.string ⟨#[49]⟩) ∧ w' = w := by
  go_enter Ybaf.func6, Ybaf.ntmps6
  go_wp2_with (go_at_call 16; refine (itoa16 _).mono ?_; rintro e w' ⟨rfl, rfl⟩)
  go_ret
  exact ⟨rfl, rfl⟩

end YbulkmvuFmt
end Go.Proofs
