/-
  Addresses: a text that opens with 0x.
-/
import Derived.Test.YbulkmvuFmtNum
namespace Go.Proofs.YbulkmvuFmt
open Go.RowKit Go.Extern.Stop Go.Stop Go.Extern

theorem extract0 (l : List UInt8) : (⟨(48 :: 120 :: l).toArray⟩ : ByteArray).extract 0 2 = ⟨#[48, 120]⟩ := by
  apply ByteArray.ext
  rw [ByteArray.data_extract]
  apply Array.ext'
  simp

theorem extract2 (l : List UInt8) (n : Nat) (hn : n = l.length + 2) : (⟨(48 :: 120 :: l).toArray⟩ : ByteArray).extract 2 n = ⟨l.toArray⟩ := by
  apply ByteArray.ext
  rw [ByteArray.data_extract]
  apply Array.ext'
  subst hn
  simp

theorem hasPrefix0x (l : List UInt8) (w : World) (hl : l.length ≤ 1000) : Calls Ybaf.prog 45 #[.string ⟨(48 :: 120 :: l).toArray⟩, .string ⟨#[48, 120]⟩] w fun e w' => e = .returned (.bool true) ∧ w' = w := by
  have he := extract0 l
  go_enter Ybaf.func45, Ybaf.ntmps45
  go_wp2
  go_ret
  exact ⟨rfl, rfl⟩

theorem cut36 (l : List UInt8) (w : World) (hl : l.length ≤ 1000) : Calls Ybaf.prog 36 #[.string ⟨(48 :: 120 :: l).toArray⟩, .string ⟨#[48, 120]⟩] w fun e w' => e = .returned (.tuple #[.string ⟨l.toArray⟩, .bool true]) ∧ w' = w := by
  have he := extract2 l (l.length + 1 + 1) (by omega)
  go_enter Ybaf.func36, Ybaf.ntmps36
  go_wp2_with (go_at_call 45; refine (hasPrefix0x l _ hl).mono ?_; rintro e w' ⟨rfl, rfl⟩)
  go_ret2
  exact ⟨rfl, rfl⟩

theorem cut28 (l : List UInt8) (w : World) (hl : l.length ≤ 1000) : Calls Ybaf.prog 28 #[.string ⟨(48 :: 120 :: l).toArray⟩, .string ⟨#[48, 120]⟩] w fun e w' => e = .returned (.tuple #[.string ⟨l.toArray⟩, .bool true]) ∧ w' = w := by
  go_enter Ybaf.func28, Ybaf.ntmps28
  go_wp2_with (go_at_call 36; refine (cut36 l _ hl).mono ?_; rintro e w' ⟨rfl, rfl⟩)
  go_ret2
  exact ⟨rfl, rfl⟩

theorem parseAddress_any (l : List UInt8) (V : Nat) (w : World) (hne : l ≠ []) (hmax : l.length ≤ 900) (hd : ∀ c ∈ l, isDig 16 c) (hV : valFrom 16 0 l = V) (hVm : V ≤ 18446744073709551615) :
    Calls Ybaf.prog 19 #[.string ⟨(48 :: 120 :: l).toArray⟩] w fun e w' => e = .returned (.tuple #[.int .u64 V, .nilIface]) ∧ Below w.heap.size w w' := by
  have h1 := cut28 l w (by omega)
  have h2 := parse20_16_64 ⟨l.toArray⟩ V w (by simpa using hne) (by rw [Lib.size_eq]; simpa using (by omega : l.length ≤ 1000)) (by simpa using hd) (by simpa using hV) hVm
  have H1 := hide h1
  have H2 := hide h2
  clear h1 h2
  go_enter Ybaf.func19, Ybaf.ntmps19
  go_wp2_with (first | (go_at_call 28; refine H1.out.mono ?_; rintro e w' ⟨rfl, rfl⟩) | (go_at_call 20; refine H2.out.mono ?_; rintro e w' ⟨rfl, hb⟩; have HB := hide hb; clear hb) | fail)
  go_ret2
  exact ⟨rfl, HB.out⟩
end Go.Proofs.YbulkmvuFmt
