/-
  Numerals: what strconv.ParseUint makes of a row of digits.
-/
import Derived.Test.YbulkmvuFmtHead
import Derived.Lib.Strings
import Derived.Lib.Walk
import Derived.Lib.ConvBytes
import Derived.Lib.AtoiAllMem
import Derived.Lib.Hide
import Derived.Laws.Strings3
import Derived.Laws.Closers25
import Derived.Laws.Closers25b
import Derived.BigCall
import Derived.BigGuard
namespace Go.Proofs.YbulkmvuFmt
open Go.RowKit Go.Extern.Stop Go.Stop Go.Extern

/-- A digit's worth. -/
def dig (c : UInt8) : Nat := if c.toNat ≤ 57 then c.toNat - 48 else c.toNat - 87
/-- A digit of base b. -/
def isDig (b : Nat) (c : UInt8) : Prop := (48 ≤ c.toNat ∧ c.toNat ≤ 57 ∧ c.toNat < 48 + b) ∨ (97 ≤ c.toNat ∧ c.toNat < 87 + b)
/-- What a row of digits is worth, from acc on. -/
def valFrom (b acc : Nat) : List UInt8 → Nat
  | [] => acc
  | c :: l => valFrom b (acc * b + dig c) l

theorem valFrom_ge (b : Nat) (hb : 1 ≤ b) : ∀ (l : List UInt8) (acc : Nat), acc ≤ valFrom b acc l
  | [], _ => Nat.le_refl _
  | c :: l, acc => by
    have h := valFrom_ge b hb l (acc * b + dig c)
    rw [valFrom]
    have : acc * 1 ≤ acc * b := Nat.mul_le_mul_left _ hb
    omega

theorem below_bytes (w : World) (e : TypeId) (s : ByteArray) : Below w.heap.size w (Lib.bytesWorld w e s) :=
  ⟨rfl, rfl, rfl, by simp [Lib.bytesWorld, World.freeze, World.alloc, World.drew, -World.alloc_eq, -World.drew_eq], fun k hk => Lib.bytesWorld_at_old w e s k hk⟩

theorem lower_any (c : Int) (w : World) : Calls Ybaf.prog 37 #[.int .u8 c] w fun e w' => e = .returned (.int .u8 (bits .or .u8 c 32)) ∧ w' = w := by
  go_enter Ybaf.func37, Ybaf.ntmps37
  go_wp2
  go_ret
  exact ⟨rfl, rfl⟩

theorem or32 (c : Nat) (h0 : 97 ≤ c) (h1 : c ≤ 102) : bits BinOp.or IntKind.u8 (c : Int) 32 = (c : Int) := by
  obtain rfl | rfl | rfl | rfl | rfl | rfl : c = 97 ∨ c = 98 ∨ c = 99 ∨ c = 100 ∨ c = 101 ∨ c = 102 := by omega
  all_goals decide

set_option maxHeartbeats 8000000 in
set_option maxRecDepth 100000 in
theorem parse29_10_63 (t : ByteArray) (V : Nat) (w : World) (hne : t.data.toList ≠ []) (hmax : t.size ≤ 1000) (hd : ∀ c ∈ t.data.toList, isDig 10 c) (hV : valFrom 10 0 t.data.toList = V) (hVm : V ≤ 9223372036854775807) :
    Calls Ybaf.prog 29 #[.string t, .int .i64 10, .int .i64 63] w fun e w' => e = .returned (.tuple #[.int .u64 V, .nilIface]) ∧ w' = Lib.bytesWorld w 5 t := by
  have hemp : t.toList.isEmpty = false := by
    rw [ByteArray.toList_eq]
    cases h : t.data.toList with
    | nil => exact absurd h hne
    | cons _ _ => rfl
  have hcv := Lib.run_convert_string_bytes (P := Ybaf.prog) w 9 88 5 t (u := .string) Ybaf.underlying9 Ybaf.underlying88 Ybaf.underlying5
  have hB : ∀ j, j < t.size → (Lib.bytesWorld w 5 t).cell? ⟨w.heap.size, j, none⟩ = some (.int .u8 (t.data.toList.getD j 0).toNat) := fun j hj => Lib.bytesWorld_cell w 5 t j hj
  obtain ⟨W1, hW1⟩ : ∃ W1, W1 = Lib.bytesWorld w 5 t := ⟨_, rfl⟩
  rw [← hW1] at hcv hB ⊢
  clear hW1
  obtain ⟨bs, hL⟩ : ∃ bs, bs = t.data.toList := ⟨_, rfl⟩
  have hLn : bs.length = t.size := by rw [hL, Lib.size_eq]
  rw [← hL] at hB hV hd
  clear hL hne
  have HD := hide hd
  have HV := hide hV
  have hmv : IntKind.u64.wrap (IntKind.u64.wrap 9223372036854775808 - 1) = 9223372036854775807 := by
    rw [IntKind.wrap_u64, IntKind.wrap_u64]
    decide
  clear hd hV
  go_enter Ybaf.func29, Ybaf.ntmps29
  go_wp2
  go_loop [12, 13, 101] (fun vu vn vi => ∃ (k acc : Nat) (a : Int), vu = .bool false ∧ vn = .int .u64 a ∧ vi = .int .i64 k ∧ k ≤ t.size ∧ Hid (a = (acc : Int) ∧ valFrom 10 acc (bs.drop k) = V))
    (fun _ _ vi => t.size - (intOf vi).toNat)
  case atStart => exact ⟨0, 0, 0, rfl, rfl, rfl, by omega, rfl, HV.out⟩
  case round =>
    obtain ⟨k, acc, a, rfl, rfl, rfl, hk, hh⟩ := hrel
    obtain ⟨ha, hdec⟩ := hh.out
    clear hh
    have a0 : 0 ≤ a := by omega
    by_cases hkn : k < t.size
    · have hc := hB k hkn
      have hdrop : bs.drop k = bs[k]'(by omega) :: bs.drop (k + 1) := List.drop_eq_getElem_cons (by omega)
      have hget : bs.getD k 0 = bs[k]'(by omega) := by simp [List.getD, List.getElem?_eq_getElem (show k < bs.length by omega)]
      have hdig := HD.out (bs[k]'(by omega)) (List.getElem_mem _)
      rw [hdrop] at hdec
      rw [hget] at hc
      generalize bs[k]'(by omega) = c at hc hdec hdig
      have hc256 : c.toNat < 256 := c.toNat_lt
      have hstep : valFrom 10 (acc * 10 + dig c) (bs.drop (k + 1)) = V := hdec
      have hge : acc * 10 + dig c ≤ V := by rw [← hstep]; exact valFrom_ge 10 (by omega) _ _
      clear hB hdrop hget hdec
      rcases hdig with ⟨hd0, hd1, hdb⟩ | ⟨hd0, hdb⟩
      · have hd : dig c = c.toNat - 48 := by rw [dig, if_pos hd1]
        rw [hd] at hge hstep
        have HN : Hid (a * 10 + ((c.toNat : Int) - 48) = ((acc * 10 + (c.toNat - 48) : Nat) : Int) ∧ valFrom 10 (acc * 10 + (c.toNat - 48)) (bs.drop (k + 1)) = V) := hide ⟨by omega, hstep⟩
        have icut : a < 1844674407370955162 := by omega
        have iov : a * 10 + ((c.toNat : Int) - 48) ≤ 9223372036854775807 := by omega
        clear hge hstep ha hd
        go_wp2
        refine ⟨⟨k + 1, acc * 10 + (c.toNat - 48), a * 10 + ((c.toNat : Int) - 48), rfl, (by first | rfl | (congr 1; omega)), (by first | rfl | (congr 1; omega)), by omega, HN⟩, by simp [intOf]; omega⟩
      · exfalso; omega
    · have hkk : k = t.size := by omega
      subst hkk
      have hF : acc = V := by rw [← hdec, List.drop_eq_nil_of_le (by omega)]; rfl
      subst hF
      subst ha
      clear hdec a0
      go_wp2
      go_ret2
      exact ⟨rfl, rfl⟩

set_option maxHeartbeats 8000000 in
set_option maxRecDepth 100000 in
theorem parse29_10_64 (t : ByteArray) (V : Nat) (w : World) (hne : t.data.toList ≠ []) (hmax : t.size ≤ 1000) (hd : ∀ c ∈ t.data.toList, isDig 10 c) (hV : valFrom 10 0 t.data.toList = V) (hVm : V ≤ 18446744073709551615) :
    Calls Ybaf.prog 29 #[.string t, .int .i64 10, .int .i64 64] w fun e w' => e = .returned (.tuple #[.int .u64 V, .nilIface]) ∧ w' = Lib.bytesWorld w 5 t := by
  have hemp : t.toList.isEmpty = false := by
    rw [ByteArray.toList_eq]
    cases h : t.data.toList with
    | nil => exact absurd h hne
    | cons _ _ => rfl
  have hcv := Lib.run_convert_string_bytes (P := Ybaf.prog) w 9 88 5 t (u := .string) Ybaf.underlying9 Ybaf.underlying88 Ybaf.underlying5
  have hB : ∀ j, j < t.size → (Lib.bytesWorld w 5 t).cell? ⟨w.heap.size, j, none⟩ = some (.int .u8 (t.data.toList.getD j 0).toNat) := fun j hj => Lib.bytesWorld_cell w 5 t j hj
  obtain ⟨W1, hW1⟩ : ∃ W1, W1 = Lib.bytesWorld w 5 t := ⟨_, rfl⟩
  rw [← hW1] at hcv hB ⊢
  clear hW1
  obtain ⟨bs, hL⟩ : ∃ bs, bs = t.data.toList := ⟨_, rfl⟩
  have hLn : bs.length = t.size := by rw [hL, Lib.size_eq]
  rw [← hL] at hB hV hd
  clear hL hne
  have HD := hide hd
  have HV := hide hV
  have hmv : IntKind.u64.wrap (IntKind.u64.wrap 18446744073709551616 - 1) = 18446744073709551615 := by
    rw [IntKind.wrap_u64, IntKind.wrap_u64]
    decide
  clear hd hV
  go_enter Ybaf.func29, Ybaf.ntmps29
  go_wp2
  go_loop [12, 13, 101] (fun vu vn vi => ∃ (k acc : Nat) (a : Int), vu = .bool false ∧ vn = .int .u64 a ∧ vi = .int .i64 k ∧ k ≤ t.size ∧ Hid (a = (acc : Int) ∧ valFrom 10 acc (bs.drop k) = V))
    (fun _ _ vi => t.size - (intOf vi).toNat)
  case atStart => exact ⟨0, 0, 0, rfl, rfl, rfl, by omega, rfl, HV.out⟩
  case round =>
    obtain ⟨k, acc, a, rfl, rfl, rfl, hk, hh⟩ := hrel
    obtain ⟨ha, hdec⟩ := hh.out
    clear hh
    have a0 : 0 ≤ a := by omega
    by_cases hkn : k < t.size
    · have hc := hB k hkn
      have hdrop : bs.drop k = bs[k]'(by omega) :: bs.drop (k + 1) := List.drop_eq_getElem_cons (by omega)
      have hget : bs.getD k 0 = bs[k]'(by omega) := by simp [List.getD, List.getElem?_eq_getElem (show k < bs.length by omega)]
      have hdig := HD.out (bs[k]'(by omega)) (List.getElem_mem _)
      rw [hdrop] at hdec
      rw [hget] at hc
      generalize bs[k]'(by omega) = c at hc hdec hdig
      have hc256 : c.toNat < 256 := c.toNat_lt
      have hstep : valFrom 10 (acc * 10 + dig c) (bs.drop (k + 1)) = V := hdec
      have hge : acc * 10 + dig c ≤ V := by rw [← hstep]; exact valFrom_ge 10 (by omega) _ _
      clear hB hdrop hget hdec
      rcases hdig with ⟨hd0, hd1, hdb⟩ | ⟨hd0, hdb⟩
      · have hd : dig c = c.toNat - 48 := by rw [dig, if_pos hd1]
        rw [hd] at hge hstep
        have HN : Hid (a * 10 + ((c.toNat : Int) - 48) = ((acc * 10 + (c.toNat - 48) : Nat) : Int) ∧ valFrom 10 (acc * 10 + (c.toNat - 48)) (bs.drop (k + 1)) = V) := hide ⟨by omega, hstep⟩
        have icut : a < 1844674407370955162 := by omega
        have iov : a * 10 + ((c.toNat : Int) - 48) ≤ 18446744073709551615 := by omega
        clear hge hstep ha hd
        go_wp2
        refine ⟨⟨k + 1, acc * 10 + (c.toNat - 48), a * 10 + ((c.toNat : Int) - 48), rfl, (by first | rfl | (congr 1; omega)), (by first | rfl | (congr 1; omega)), by omega, HN⟩, by simp [intOf]; omega⟩
      · exfalso; omega
    · have hkk : k = t.size := by omega
      subst hkk
      have hF : acc = V := by rw [← hdec, List.drop_eq_nil_of_le (by omega)]; rfl
      subst hF
      subst ha
      clear hdec a0
      go_wp2
      go_ret2
      exact ⟨rfl, rfl⟩

set_option maxHeartbeats 8000000 in
set_option maxRecDepth 100000 in
theorem parse29_16_64 (t : ByteArray) (V : Nat) (w : World) (hne : t.data.toList ≠ []) (hmax : t.size ≤ 1000) (hd : ∀ c ∈ t.data.toList, isDig 16 c) (hV : valFrom 16 0 t.data.toList = V) (hVm : V ≤ 18446744073709551615) :
    Calls Ybaf.prog 29 #[.string t, .int .i64 16, .int .i64 64] w fun e w' => e = .returned (.tuple #[.int .u64 V, .nilIface]) ∧ w' = Lib.bytesWorld w 5 t := by
  have hemp : t.toList.isEmpty = false := by
    rw [ByteArray.toList_eq]
    cases h : t.data.toList with
    | nil => exact absurd h hne
    | cons _ _ => rfl
  have hcv := Lib.run_convert_string_bytes (P := Ybaf.prog) w 9 88 5 t (u := .string) Ybaf.underlying9 Ybaf.underlying88 Ybaf.underlying5
  have hB : ∀ j, j < t.size → (Lib.bytesWorld w 5 t).cell? ⟨w.heap.size, j, none⟩ = some (.int .u8 (t.data.toList.getD j 0).toNat) := fun j hj => Lib.bytesWorld_cell w 5 t j hj
  obtain ⟨W1, hW1⟩ : ∃ W1, W1 = Lib.bytesWorld w 5 t := ⟨_, rfl⟩
  rw [← hW1] at hcv hB ⊢
  clear hW1
  obtain ⟨bs, hL⟩ : ∃ bs, bs = t.data.toList := ⟨_, rfl⟩
  have hLn : bs.length = t.size := by rw [hL, Lib.size_eq]
  rw [← hL] at hB hV hd
  clear hL hne
  have HD := hide hd
  have HV := hide hV
  have hmv : IntKind.u64.wrap (IntKind.u64.wrap 18446744073709551616 - 1) = 18446744073709551615 := by
    rw [IntKind.wrap_u64, IntKind.wrap_u64]
    decide
  clear hd hV
  go_enter Ybaf.func29, Ybaf.ntmps29
  go_wp2
  go_loop [12, 13, 101] (fun vu vn vi => ∃ (k acc : Nat) (a : Int), vu = .bool false ∧ vn = .int .u64 a ∧ vi = .int .i64 k ∧ k ≤ t.size ∧ Hid (a = (acc : Int) ∧ valFrom 16 acc (bs.drop k) = V))
    (fun _ _ vi => t.size - (intOf vi).toNat)
  case atStart => exact ⟨0, 0, 0, rfl, rfl, rfl, by omega, rfl, HV.out⟩
  case round =>
    obtain ⟨k, acc, a, rfl, rfl, rfl, hk, hh⟩ := hrel
    obtain ⟨ha, hdec⟩ := hh.out
    clear hh
    have a0 : 0 ≤ a := by omega
    by_cases hkn : k < t.size
    · have hc := hB k hkn
      have hdrop : bs.drop k = bs[k]'(by omega) :: bs.drop (k + 1) := List.drop_eq_getElem_cons (by omega)
      have hget : bs.getD k 0 = bs[k]'(by omega) := by simp [List.getD, List.getElem?_eq_getElem (show k < bs.length by omega)]
      have hdig := HD.out (bs[k]'(by omega)) (List.getElem_mem _)
      rw [hdrop] at hdec
      rw [hget] at hc
      generalize bs[k]'(by omega) = c at hc hdec hdig
      have hc256 : c.toNat < 256 := c.toNat_lt
      have hstep : valFrom 16 (acc * 16 + dig c) (bs.drop (k + 1)) = V := hdec
      have hge : acc * 16 + dig c ≤ V := by rw [← hstep]; exact valFrom_ge 16 (by omega) _ _
      clear hB hdrop hget hdec
      rcases hdig with ⟨hd0, hd1, hdb⟩ | ⟨hd0, hdb⟩
      · have hd : dig c = c.toNat - 48 := by rw [dig, if_pos hd1]
        rw [hd] at hge hstep
        have HN : Hid (a * 16 + ((c.toNat : Int) - 48) = ((acc * 16 + (c.toNat - 48) : Nat) : Int) ∧ valFrom 16 (acc * 16 + (c.toNat - 48)) (bs.drop (k + 1)) = V) := hide ⟨by omega, hstep⟩
        have icut : a < 1152921504606846976 := by omega
        have iov : a * 16 + ((c.toNat : Int) - 48) ≤ 18446744073709551615 := by omega
        clear hge hstep ha hd
        go_wp2
        refine ⟨⟨k + 1, acc * 16 + (c.toNat - 48), a * 16 + ((c.toNat : Int) - 48), rfl, (by first | rfl | (congr 1; omega)), (by first | rfl | (congr 1; omega)), by omega, HN⟩, by simp [intOf]; omega⟩
      · have hv := or32 c.toNat (by omega) (by omega)
        have hd : dig c = c.toNat - 87 := by rw [dig, if_neg (by omega)]
        rw [hd] at hge hstep
        have HN : Hid (a * 16 + ((c.toNat : Int) - 97 + 10) = ((acc * 16 + (c.toNat - 87) : Nat) : Int) ∧ valFrom 16 (acc * 16 + (c.toNat - 87)) (bs.drop (k + 1)) = V) := hide ⟨by omega, hstep⟩
        have hl0 : 97 ≤ c.toNat := by omega
        have hl1 : c.toNat ≤ 102 := by omega
        have icut : a < 1152921504606846976 := by omega
        have iov : a * 16 + ((c.toNat : Int) - 97 + 10) ≤ 18446744073709551615 := by omega
        have iov2 : a * 16 ≤ 18446744073709551615 := by omega
        clear hge hstep ha hd
        go_wp2_with (go_at_call 37; refine (lower_any _ _).mono ?_; rintro e w' ⟨rfl, rfl⟩; rw [hv])
        refine ⟨⟨k + 1, acc * 16 + (c.toNat - 87), a * 16 + ((c.toNat : Int) - 97 + 10), rfl, (by first | rfl | (congr 1; omega)), (by first | rfl | (congr 1; omega)), by omega, HN⟩, by simp [intOf]; omega⟩
    · have hkk : k = t.size := by omega
      subst hkk
      have hF : acc = V := by rw [← hdec, List.drop_eq_nil_of_le (by omega)]; rfl
      subst hF
      subst ha
      clear hdec a0
      go_wp2
      go_ret2
      exact ⟨rfl, rfl⟩

theorem parse20_10_63 (t : ByteArray) (V : Nat) (w : World) (hne : t.data.toList ≠ []) (hmax : t.size ≤ 1000) (hd : ∀ c ∈ t.data.toList, isDig 10 c) (hV : valFrom 10 0 t.data.toList = V) (hVm : V ≤ 9223372036854775807) :
    Calls Ybaf.prog 20 #[.string t, .int .i64 10, .int .i64 63] w fun e w' => e = .returned (.tuple #[.int .u64 V, .nilIface]) ∧ Below w.heap.size w w' := by
  go_enter Ybaf.func20, Ybaf.ntmps20
  go_wp2_with (go_at_call 29; refine (parse29_10_63 t V w hne hmax hd hV hVm).mono ?_; rintro e w' ⟨rfl, rfl⟩)
  go_ret2
  exact ⟨rfl, below_bytes _ _ _⟩

theorem parse20_10_64 (t : ByteArray) (V : Nat) (w : World) (hne : t.data.toList ≠ []) (hmax : t.size ≤ 1000) (hd : ∀ c ∈ t.data.toList, isDig 10 c) (hV : valFrom 10 0 t.data.toList = V) (hVm : V ≤ 18446744073709551615) :
    Calls Ybaf.prog 20 #[.string t, .int .i64 10, .int .i64 64] w fun e w' => e = .returned (.tuple #[.int .u64 V, .nilIface]) ∧ Below w.heap.size w w' := by
  go_enter Ybaf.func20, Ybaf.ntmps20
  go_wp2_with (go_at_call 29; refine (parse29_10_64 t V w hne hmax hd hV hVm).mono ?_; rintro e w' ⟨rfl, rfl⟩)
  go_ret2
  exact ⟨rfl, below_bytes _ _ _⟩

theorem parse20_16_64 (t : ByteArray) (V : Nat) (w : World) (hne : t.data.toList ≠ []) (hmax : t.size ≤ 1000) (hd : ∀ c ∈ t.data.toList, isDig 16 c) (hV : valFrom 16 0 t.data.toList = V) (hVm : V ≤ 18446744073709551615) :
    Calls Ybaf.prog 20 #[.string t, .int .i64 16, .int .i64 64] w fun e w' => e = .returned (.tuple #[.int .u64 V, .nilIface]) ∧ Below w.heap.size w w' := by
  go_enter Ybaf.func20, Ybaf.ntmps20
  go_wp2_with (go_at_call 29; refine (parse29_16_64 t V w hne hmax hd hV hVm).mono ?_; rintro e w' ⟨rfl, rfl⟩)
  go_ret2
  exact ⟨rfl, below_bytes _ _ _⟩

theorem parseDecimal_any (t : ByteArray) (V : Nat) (w : World) (hne : t.data.toList ≠ []) (hmax : t.size ≤ 1000) (hd : ∀ c ∈ t.data.toList, isDig 10 c) (hV : valFrom 10 0 t.data.toList = V) (hVm : V ≤ 9223372036854775807) :
    Calls Ybaf.prog 22 #[.string t] w fun e w' => e = .returned (.tuple #[.int .i64 V, .nilIface]) ∧ Below w.heap.size w w' := by
  have hv : (V : Int) ≤ 9223372036854775807 := by omega
  go_enter Ybaf.func22, Ybaf.ntmps22
  go_wp2_with (go_at_call 20; refine (parse20_10_63 t V w hne hmax hd hV hVm).mono ?_; rintro e w' ⟨rfl, hb⟩; have HB := hide hb; clear hb)
  go_ret2
  exact ⟨rfl, HB.out⟩

end Go.Proofs.YbulkmvuFmt
