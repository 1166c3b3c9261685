/-
  What strconv.Itoa and strconv.FormatUint write.
-/
import Derived.Test.YbulkmvuFmtHex
import Derived.Test.YbulkmvuFmtShelf
import Derived.Lib.ItoaMem
namespace Go.Proofs.YbulkmvuFmt
open Go.RowKit Go.Extern.Stop Go.Stop Go.Extern Go.Sort

/-- The table of powers is laid. -/
abbrev Pow (w : World) : Prop := Lib.TabIs Ybaf.prog w "internal/strconv.uint64pow10" .u64 Lib.pow10Tab

theorem below_grow (w : World) (k : Nat) (os : Array Obj) : Below w.heap.size w (grow (w.drewN k) os) :=
  ⟨rfl, rfl, rfl, by simp [grow], fun q hq => by
    show (w.heap ++ os)[q]? = _
    exact Array.getElem?_append_left hq⟩

theorem itoa_any (n : Nat) (h : n ≤ 1000) (w : World) (ht : Pow w) : Calls Ybaf.prog 6 #[.int .i64 n] w fun e w' => e = .returned (.string ⟨(Lib.decDigits n).toArray⟩) ∧ Below w.heap.size w w' := by
  refine (Ybaf.strconv_Itoa n (by omega) (by omega) w ht).mono ?_
  rintro e w' ⟨rfl, k, os, rfl⟩
  exact ⟨by rw [Lib.itoa_nonneg], below_grow _ _ _⟩

theorem holds_zero0 (w : World) (T : TypeId) (nd : Nat) (hs : nd ≤ 24) : Holds (fun (b : UInt8) => Value.int .u8 (b.toNat : Int)) (w.alloc (.cells Lib.zeros24 T)) w.heap.size 0 (Array.replicate nd (0 : UInt8)) := fun j hj => by
  have hj' : j < nd := by simpa using hj
  refine ⟨?_, World.frozen?_alloc_new _ _ _ _⟩
  rw [World.cell?_alloc_new, Lib.zeros24_at _ (by omega), getElem!_pos _ j hj]
  simp

theorem fin_zero (w : World) (o : Obj) (dk : Array UInt8) (k : Nat) : ∃ os, (putRow (fun (b : UInt8) => Value.int .u8 (b.toNat : Int)) (w.alloc o) w.heap.size 0 dk).drewN k = grow (w.drewN k) os := by
  rw [alloc_eq_grow]
  obtain ⟨os', _, e⟩ := putRow_grow_new (fun (b : UInt8) => Value.int .u8 (b.toNat : Int)) w #[o] w.heap.size 0 dk (Nat.le_refl _)
  exact ⟨os', by rw [e]; rfl⟩

set_option maxHeartbeats 6400000 in
set_option maxRecDepth 100000 in
theorem format17_10 (u : Nat) (hu64 : u < 18446744073709551616) (w : World) (htab : Pow w) :
    Calls Ybaf.prog 17 #[.int .u64 u, .int .i64 10] w fun e w' => e = .returned (.string ⟨(Lib.decDigits u).toArray⟩) ∧ Below w.heap.size w w' := by
  by_cases hs : u < 100
  · have hui : (u : Int) < 100 := by omega
    go_enter Ybaf.func17, Ybaf.ntmps17
    go_wp2_with (go_at_call 24; refine (Ybaf.internal_strconv_small u hs _).mono ?_; rintro e w' ⟨rfl, rfl⟩)
    go_ret
    exact ⟨rfl, Below.refl _ _⟩
  · have hu1 : 1 ≤ u := by omega
    have hui : ¬ (u : Int) < 100 := by omega
    have hnd20 : Lib.nDigits u ≤ 20 := by have := Lib.numDigits_eq u hu1 hu64; split at this <;> omega
    have hal : Ybaf.prog.arrayLen 85 = 24 := by simp [Program.arrayLen, Ybaf.underlying85]
    have hsl1 : ∀ W, (Instr.sliceAt 85 (.pointer (some ⟨w.heap.size, 0, none⟩)) none (some (.int .i64 (Lib.nDigits u : Int))) none).run Ybaf.prog W = .ok (.slice (some ⟨w.heap.size, 0, none⟩) (Lib.nDigits u) 24) W := fun W => by
      rw [run_sliceAt_array_h W 85 ⟨w.heap.size, 0, none⟩ (by simp [Program.arrayLen, Program.elem, Ybaf.underlying85]) .i64 (Lib.nDigits u : Int) (by omega) (by rw [hal]; omega)]
      go_simp
    have hH0 := holds_zero0 w 85 (Lib.nDigits u) (by omega)
    have hfmt := Ybaf.internal_strconv_formatBase10 w.heap.size 0 24 u (Array.replicate (Lib.nDigits u) 0) (w.alloc (.cells Lib.zeros24 85)) hH0 (by rw [Array.size_replicate]; exact Lib.lt_pow_nDigits u) hu64 (by rw [Array.size_replicate]; omega)
    rw [Array.size_replicate] at hfmt
    have HH0 := hide hH0
    clear hH0 hal
    go_enter Ybaf.func17, Ybaf.ntmps17
    go_wp2_with (first
      | (go_at_call 25; refine (Ybaf.internal_strconv_numDigits u hu1 hu64 _ (Lib.tabIs_alloc htab _)).mono ?_; rintro e w' ⟨rfl, rfl⟩) | fail)
    go_at_call 26
    refine hfmt.mono ?_
    rintro e w' ⟨rfl, k, v', dk, rfl, hF⟩
    have hcv : (convert 88 9 (.slice (some ⟨w.heap.size, 0, none⟩) (Lib.nDigits u) 24)).run Ybaf.prog ((putRow (fun (b : UInt8) => Value.int .u8 (b.toNat : Int)) (w.alloc (.cells Lib.zeros24 85)) w.heap.size 0 dk).drewN k) = .ok (.string ⟨(Lib.decDigits u).toArray⟩) ((putRow (fun (b : UInt8) => Value.int .u8 (b.toNat : Int)) (w.alloc (.cells Lib.zeros24 85)) w.heap.size 0 dk).drewN k) := by
      have h := run_convert_bytes_back (P := Ybaf.prog) ((putRow (fun (b : UInt8) => Value.int .u8 (b.toNat : Int)) (w.alloc (.cells Lib.zeros24 85)) w.heap.size 0 dk).drewN k) 88 9 5 ⟨w.heap.size, 0, none⟩ 24 (Lib.decDigits u) Ybaf.underlying88 Ybaf.underlying5 Ybaf.underlying9 (fun j hj => by
        rw [Lib.row_is_numeral hF j hj, Lib.add_plain, World.cell?_drewN]
        exact cell?_putRow (fun (b : UInt8) => Value.int .u8 (b.toNat : Int)) _ w.heap.size 0 _ dk HH0.out (by rw [hF.size, Array.size_replicate]) j (by rw [hF.size]; rw [Lib.decDigits_length] at hj; exact hj))
      rw [Lib.decDigits_length] at h
      exact h
    go_wp2
    go_ret
    obtain ⟨os, eo⟩ := fin_zero w (.cells Lib.zeros24 85) dk k
    rw [eo]
    exact ⟨rfl, below_grow _ _ _⟩
end Go.Proofs.YbulkmvuFmt
