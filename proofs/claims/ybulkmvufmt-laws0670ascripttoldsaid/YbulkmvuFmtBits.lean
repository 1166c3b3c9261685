/-
  strconv.FormatUint at base 16.
-/
import Derived.Test.YbulkmvuFmtFormat
namespace Go.Proofs.YbulkmvuFmt
open Go.RowKit Go.Extern.Stop Go.Stop Go.Extern Go.Sort

/-- The table of places is laid, as far as it is read. -/
abbrev Bru (w : World) : Prop := w.cell? ⟨4, 15, none⟩ = some (.int .u8 4)

theorem pow2_16 (w : World) : Calls Ybaf.prog 34 #[.int .i64 16] w fun e w' => e = .returned (.bool true) ∧ w' = w := by
  go_enter Ybaf.func34, Ybaf.ntmps34
  go_wp2
  go_ret
  exact ⟨rfl, rfl⟩

theorem tz64_16 (w : World) (h : Bru w) : Calls Ybaf.prog 44 #[.int .u64 16] w fun e w' => e = .returned (.int .i64 4) ∧ w' = w := by
  have h1 : bits BinOp.and IntKind.u64 16 (IntKind.u64.wrap (-16)) = 16 := by decide
  have h2 : IntKind.u64.wrap (16 * 285870213051353865) = 4573923408821661840 := by decide
  go_enter Ybaf.func44, Ybaf.ntmps44
  go_wp2
  go_ret
  exact ⟨rfl, rfl⟩

theorem tz_16 (w : World) (h : Bru w) : Calls Ybaf.prog 35 #[.int .u64 16] w fun e w' => e = .returned (.int .i64 4) ∧ w' = w := by
  go_enter Ybaf.func35, Ybaf.ntmps35
  go_wp2_with (go_at_call 44; refine (tz64_16 w h).mono ?_; rintro e w' ⟨rfl, rfl⟩)
  go_ret
  exact ⟨rfl, rfl⟩

/-- The byte of a digit of base 16. -/
def hexc (d : Nat) : UInt8 := UInt8.ofNat (if d < 10 then 48 + d else 87 + d)

theorem hexc_ok (d : Nat) (h : d < 16) : isDig 16 (hexc d) ∧ dig (hexc d) = d := by
  obtain rfl | rfl | rfl | rfl | rfl | rfl | rfl | rfl | rfl | rfl | rfl | rfl | rfl | rfl | rfl | rfl : d = 0 ∨ d = 1 ∨ d = 2 ∨ d = 3 ∨ d = 4 ∨ d = 5 ∨ d = 6 ∨ d = 7 ∨ d = 8 ∨ d = 9 ∨ d = 10 ∨ d = 11 ∨ d = 12 ∨ d = 13 ∨ d = 14 ∨ d = 15 := by omega
  all_goals first | exact ⟨Or.inl (by decide), by decide⟩ | exact ⟨Or.inr (by decide), by decide⟩

theorem digit_at (d : Nat) (h : d < 16) (hs : d < (⟨#[48, 49, 50, 51, 52, 53, 54, 55, 56, 57, 97, 98, 99, 100, 101, 102, 103, 104, 105, 106, 107, 108, 109, 110, 111, 112, 113, 114, 115, 116, 117, 118, 119, 120, 121, 122]⟩ : ByteArray).size) : (⟨#[48, 49, 50, 51, 52, 53, 54, 55, 56, 57, 97, 98, 99, 100, 101, 102, 103, 104, 105, 106, 107, 108, 109, 110, 111, 112, 113, 114, 115, 116, 117, 118, 119, 120, 121, 122]⟩ : ByteArray)[d]'hs = hexc d := by
  obtain rfl | rfl | rfl | rfl | rfl | rfl | rfl | rfl | rfl | rfl | rfl | rfl | rfl | rfl | rfl | rfl : d = 0 ∨ d = 1 ∨ d = 2 ∨ d = 3 ∨ d = 4 ∨ d = 5 ∨ d = 6 ∨ d = 7 ∨ d = 8 ∨ d = 9 ∨ d = 10 ∨ d = 11 ∨ d = 12 ∨ d = 13 ∨ d = 14 ∨ d = 15 := by omega
  all_goals rfl

/-- Midway: the digits tl lie at the row's end; v is left. -/
def HMid (w wr : World) (u v : Nat) (tl : List UInt8) : Prop :=
  Below w.heap.size w wr ∧ (∃ cs, wr.heap[w.heap.size]? = some (.cells cs 98 (0, 0)) ∧ cs.size = 65 ∧ ∀ (j : Nat) (c : UInt8), tl[j]? = some c → cs[65 - tl.length + j]? = some (.int .u8 (c.toNat : Int))) ∧
    (∀ c ∈ tl, isDig 16 c) ∧ valFrom 16 v tl = u ∧ v < 16 ^ (16 - tl.length) ∧ tl.length ≤ 15

theorem hmid_put {w wr : World} {u v : Nat} {tl : List UInt8} (h : HMid w wr u v tl) (d : Nat) (hd : d < 16) :
    Below w.heap.size w (wr.setCell ⟨w.heap.size, 65 - tl.length - 1, none⟩ (.int .u8 ((hexc d).toNat : Int))) ∧
    (∃ cs, (wr.setCell ⟨w.heap.size, 65 - tl.length - 1, none⟩ (.int .u8 ((hexc d).toNat : Int))).heap[w.heap.size]? = some (.cells cs 98 (0, 0)) ∧ cs.size = 65 ∧ ∀ (j : Nat) (c : UInt8), (hexc d :: tl)[j]? = some c → cs[65 - (hexc d :: tl).length + j]? = some (.int .u8 (c.toNat : Int))) ∧
    (∀ c ∈ hexc d :: tl, isDig 16 c) := by
  obtain ⟨h1, ⟨cs, h2, h3, h4⟩, h5, h6, h7, h8⟩ := h
  refine ⟨h1.trans ⟨rfl, rfl, rfl, by simp [World.setCell], fun q hq => heap_setCell_other _ _ _ _ (by simp; omega)⟩, ⟨_, heap_setCell_same wr _ _ cs 98 _ h2, by simpa using h3, fun j c hj => ?_⟩, ?_⟩
  · rw [List.length_cons]
    cases j with
    | zero =>
      simp at hj
      subst hj
      rw [show 65 - (tl.length + 1) + 0 = 65 - tl.length - 1 by omega, Array.getElem?_setIfInBounds, if_pos rfl, if_pos (by omega)]
    | succ i =>
      rw [List.getElem?_cons_succ] at hj
      rw [show 65 - (tl.length + 1) + (i + 1) = 65 - tl.length + i by omega, Array.getElem?_setIfInBounds, if_neg (by omega)]
      exact h4 i c hj
  · intro c hc
    rcases List.mem_cons.1 hc with rfl | hc
    · exact (hexc_ok d hd).1
    · exact h5 c hc

theorem hmid_step {w wr : World} {u v : Nat} {tl : List UInt8} (h : HMid w wr u v tl) (hv : 16 ≤ v) :
    HMid w (wr.setCell ⟨w.heap.size, 65 - tl.length - 1, none⟩ (.int .u8 ((hexc (v % 16)).toNat : Int))) u (v / 16) (hexc (v % 16) :: tl) := by
  obtain ⟨p1, p2, p3⟩ := hmid_put h (v % 16) (by omega)
  obtain ⟨h1, h2, h5, h6, h7, h8⟩ := h
  have hl : tl.length ≤ 14 := by
    rcases Nat.lt_or_ge tl.length 15 with h | h
    · omega
    · have : tl.length = 15 := by omega
      rw [this] at h7
      simp at h7
      omega
  refine ⟨p1, p2, p3, ?_, ?_, by simp; omega⟩
  · rw [valFrom, (hexc_ok (v % 16) (by omega)).2, Nat.div_add_mod' v 16]
    exact h6
  · rw [List.length_cons, Nat.div_lt_iff_lt_mul (by omega), ← Nat.pow_succ, show (16 - (tl.length + 1)).succ = 16 - tl.length by omega]
    exact h7

theorem and15 (v : Nat) (h : v < 18446744073709551616) : bits BinOp.and IntKind.u64 (v : Int) 15 = ((v % 16 : Nat) : Int) := by
  have h1 := u64_and_nat v 15 h (by decide)
  have h2 : v &&& 15 = v % 16 := Nat.and_two_pow_sub_one_eq_mod v 4
  rw [h2] at h1
  exact h1

theorem zero98 : ∀ w, (zeroValue 98).run Ybaf.prog w = .ok (.agg (Array.replicate 65 (.int .u8 0))) w := by
  intro w
  kernel_rfl

set_option maxHeartbeats 4000000 in
set_option maxRecDepth 100000 in
theorem format27 (u : Nat) (hu : u < 18446744073709551616) (w : World) (hb : Bru w) :
    Calls Ybaf.prog 27 #[.slice none 0 0, .int .u64 u, .int .i64 16, .bool false, .bool false] w fun e w' => ∃ l : List UInt8, e = .returned (.tuple #[.slice none 0 0, .string ⟨l.toArray⟩]) ∧ Below w.heap.size w w' ∧ l ≠ [] ∧ l.length ≤ 16 ∧ (∀ c ∈ l, isDig 16 c) ∧ valFrom 16 0 l = u := by
  obtain ⟨Z, hZ⟩ : ∃ Z, Z = Array.replicate 65 (Value.int .u8 0) := ⟨_, rfl⟩
  have hz := zero98
  rw [← hZ] at hz
  have HZ := hide hZ
  clear hZ
  go_enter Ybaf.func27, Ybaf.ntmps27
  go_wp2_with (first | (go_at_call 34; refine (pow2_16 _).mono ?_; rintro e w' ⟨rfl, rfl⟩) | (go_at_call 35; refine (tz_16 _ ((World.cell?_of_block (w := w) (Below.heap_alloc _ _ _ (World.block_lt_of_cell? _ _ hb))).trans hb)).mono ?_; rintro e w' ⟨rfl, rfl⟩) | fail)
  generalize hwz : w.alloc _ = wz
  have hst : HMid w wz u u [] := by
    have hnew : wz.heap[w.heap.size]? = some (.cells Z 98 (0, 0)) := by rw [← hwz]; exact heap_alloc_new w _
    refine ⟨by rw [← hwz]; exact (Below.refl _ _).alloc (Nat.le_refl _) _, ⟨Z, hnew, by rw [HZ.out]; simp, fun j c hj => by simp at hj⟩, fun c hc => by simp at hc, rfl, by simpa using hu, by simp⟩
  have HST := hide hst
  clear hst hwz hz HZ
  go_loopw [1, 13] (fun uv iv wr => ∃ (v k : Nat) (tl : List UInt8), uv = .int .u64 (v : Int) ∧ iv = .int .i64 (k : Int) ∧ Hid (k + tl.length = 65) ∧ HMid w wr u v tl) (fun uv _ _ => (intOf uv).toNat)
  case atStart => exact ⟨u, 65, [], rfl, rfl, hide rfl, HST.out⟩
  case round =>
    obtain ⟨v, k, tl, rfl, rfl, hkt, hm⟩ := hrel
    have HM := hide hm
    obtain ⟨m1, ⟨cs, m2, m3, m4⟩, m5, m6, m7, m8⟩ := hm
    have hkt' := hkt.out
    obtain ⟨j, rfl⟩ : ∃ j, k = j + 1 := ⟨k - 1, by omega⟩
    have hj65 : (j : Int) < 65 := by omega
    have hv64 : v < 18446744073709551616 := Nat.lt_of_lt_of_le m7 (Nat.pow_le_pow_right (by omega) (show 16 - tl.length ≤ 16 by omega))
    obtain ⟨x, cx⟩ : ∃ x, wr.cell? ⟨w.heap.size, j, none⟩ = some x := ⟨_, by rw [cell_of_row _ _ _ _ _ _ m2, Array.getElem?_eq_getElem (by omega)]⟩
    have fx : wr.frozen? ⟨w.heap.size, j, none⟩ = false := frozen_of_row _ _ _ _ _ m2
    clear m1 m2 m3 m4 m5 m6 m7 m8 hkt'
    by_cases hv : 16 ≤ v
    · have hvi : (16 : Int) ≤ (v : Int) := by omega
      obtain ⟨d, hd⟩ : ∃ d, d = v % 16 := ⟨_, rfl⟩
      have hd16 : d < 16 := by omega
      have hand := and15 v hv64
      rw [← hd] at hand
      have HD := hide hd
      clear hd
      have hdd : ∀ hs, (⟨#[48, 49, 50, 51, 52, 53, 54, 55, 56, 57, 97, 98, 99, 100, 101, 102, 103, 104, 105, 106, 107, 108, 109, 110, 111, 112, 113, 114, 115, 116, 117, 118, 119, 120, 121, 122]⟩ : ByteArray)[d]'hs = hexc d := fun hs => digit_at d hd16 hs
      go_wp2_with fail
      go_roundw
      case rel =>
        have h1 := hmid_step HM.out hv
        have h2 := hkt.out
        rw [show 65 - tl.length - 1 = j by omega, ← HD.out] at h1
        exact ⟨v / 16, j, hexc d :: tl, by simp, rfl, hide (by simp; omega), h1⟩
      case measure => simp [intOf]; omega
    · have hvi : ¬ (16 : Int) ≤ (v : Int) := by omega
      have hdd : ∀ hs, (⟨#[48, 49, 50, 51, 52, 53, 54, 55, 56, 57, 97, 98, 99, 100, 101, 102, 103, 104, 105, 106, 107, 108, 109, 110, 111, 112, 113, 114, 115, 116, 117, 118, 119, 120, 121, 122]⟩ : ByteArray)[v]'hs = hexc v := fun hs => digit_at v (by omega) hs
      have hvi2 : (v : Int) < 16 := by omega
      have hal : Ybaf.prog.arrayLen 98 = 65 := by simp [Program.arrayLen, Ybaf.underlying98]
      have hsl : ∀ W, (Instr.sliceAt 98 (.pointer (some ⟨w.heap.size, 0, none⟩)) (some (.int .i64 (j : Int))) none none).run Ybaf.prog W = .ok (.slice (some ⟨w.heap.size, j, none⟩) (65 - j) (65 - j)) W := fun W => by
        rw [run_sliceAt_array_l W 98 ⟨w.heap.size, 0, none⟩ (by simp [Program.arrayLen, Program.elem, Ybaf.underlying98]) .i64 (j : Int) (by omega) (by rw [hal]; omega)]
        go_simp
        omega
      obtain ⟨p1, ⟨cs', p2, p3, p4⟩, p5⟩ := hmid_put HM.out v (by omega)
      have h2 := hkt.out
      rw [show 65 - tl.length - 1 = j by omega] at p1 p2
      have hcv : (convert 88 9 (.slice (some ⟨w.heap.size, j, none⟩) (65 - j) (65 - j))).run Ybaf.prog (wr.setCell ⟨w.heap.size, j, none⟩ (.int .u8 ((hexc v).toNat : Int))) = .ok (.string ⟨(hexc v :: tl).toArray⟩) (wr.setCell ⟨w.heap.size, j, none⟩ (.int .u8 ((hexc v).toNat : Int))) := by
        have h := run_convert_bytes_back (P := Ybaf.prog) (wr.setCell ⟨w.heap.size, j, none⟩ (.int .u8 ((hexc v).toNat : Int))) 88 9 5 ⟨w.heap.size, j, none⟩ (65 - j) (hexc v :: tl) Ybaf.underlying88 Ybaf.underlying5 Ybaf.underlying9 (fun i hi => by
          rw [Lib.add_plain, cell_of_row _ _ _ _ _ _ p2]
          have := p4 i _ (List.getElem?_eq_getElem hi)
          rw [List.length_cons, show 65 - (tl.length + 1) = j by omega] at this
          exact this)
        rw [List.length_cons, show tl.length + 1 = 65 - j by omega] at h
        exact h
      have HP1 := hide p1
      have HP5 := hide p5
      have HVL : Hid (valFrom 16 0 (hexc v :: tl) = u ∧ (hexc v :: tl).length ≤ 16) := hide (by
        obtain ⟨_, _, _, q6, _, q8⟩ := HM.out
        refine ⟨?_, by simp; omega⟩
        rw [valFrom, (hexc_ok v (by omega)).2, Nat.zero_mul, Nat.zero_add]
        exact q6)
      clear p1 p2 p3 p4 p5 h2 hal
      go_wp2_with fail
      go_ret2
      exact ⟨hexc v :: tl, rfl, HP1.out, by simp, HVL.out.2, HP5.out, HVL.out.1⟩

/-- A numeral. -/
def Num (b u : Nat) (l : List UInt8) : Prop := l ≠ [] ∧ l.length ≤ 20 ∧ (∀ c ∈ l, isDig b c) ∧ valFrom b 0 l = u

theorem valFrom_append (b : Nat) : ∀ (l r : List UInt8) (acc : Nat), valFrom b acc (l ++ r) = valFrom b (valFrom b acc l) r
  | [], _, _ => rfl
  | c :: l, r, acc => valFrom_append b l r (acc * b + dig c)

theorem dec_digit (d : Nat) (h : d < 10) : isDig 10 (UInt8.ofNat (48 + d)) ∧ dig (UInt8.ofNat (48 + d)) = d := by
  obtain rfl | rfl | rfl | rfl | rfl | rfl | rfl | rfl | rfl | rfl : d = 0 ∨ d = 1 ∨ d = 2 ∨ d = 3 ∨ d = 4 ∨ d = 5 ∨ d = 6 ∨ d = 7 ∨ d = 8 ∨ d = 9 := by omega
  all_goals exact ⟨Or.inl (by decide), by decide⟩

theorem dec_all (u : Nat) : Lib.decDigits u ≠ [] ∧ (∀ c ∈ Lib.decDigits u, isDig 10 c) ∧ valFrom 10 0 (Lib.decDigits u) = u := by
  induction u using Nat.strongRecOn with
  | _ u ih =>
    by_cases h : u < 10
    · rw [Lib.decDigits, dif_pos h]
      refine ⟨by simp, fun c hc => ?_, ?_⟩
      · rw [List.mem_singleton.1 hc]
        exact (dec_digit u h).1
      · simp only [valFrom, (dec_digit u h).2]
        omega
    · obtain ⟨h1, h2, h3⟩ := ih (u / 10) (by omega)
      rw [Lib.decDigits, dif_neg h]
      refine ⟨by simp, fun c hc => ?_, ?_⟩
      · rcases List.mem_append.1 hc with hc | hc
        · exact h2 c hc
        · rw [List.mem_singleton.1 hc]
          exact (dec_digit (u % 10) (by omega)).1
      · rw [valFrom_append, h3]
        simp only [valFrom, (dec_digit (u % 10) (by omega)).2]
        omega

theorem num_dec (u : Nat) (hu : u < 18446744073709551616) : Num 10 u (Lib.decDigits u) := by
  obtain ⟨h1, h2, h3⟩ := dec_all u
  refine ⟨h1, ?_, h2, h3⟩
  rw [Lib.decDigits_length]
  by_cases h0 : u = 0
  · subst h0
    rw [Lib.nDigits_small (by omega)]
    omega
  · have := Lib.numDigits_eq u (by omega) hu
    split at this <;> omega

theorem format17_16 (u : Nat) (hu : u < 18446744073709551616) (w : World) (hb : Bru w) :
    Calls Ybaf.prog 17 #[.int .u64 u, .int .i64 16] w fun e w' => ∃ l : List UInt8, e = .returned (.string ⟨l.toArray⟩) ∧ Below w.heap.size w w' ∧ Num 16 u l := by
  go_enter Ybaf.func17, Ybaf.ntmps17
  go_wp2_with (go_at_call 27; refine (format27 u hu w hb).mono ?_; rintro e w' ⟨l, rfl, hbl, h1, h2, h3, h4⟩; have HA : Hid (Below w.heap.size w w' ∧ Num 16 u l) := hide ⟨hbl, h1, by omega, h3, h4⟩; clear hbl h1 h2 h3 h4)
  go_ret
  exact ⟨l, rfl, HA.out.1, HA.out.2⟩

theorem format_hex (u : Nat) (hu : u < 18446744073709551616) (w : World) (hb : Bru w) :
    Calls Ybaf.prog 7 #[.int .u64 u, .int .i64 16] w fun e w' => ∃ l : List UInt8, e = .returned (.string ⟨l.toArray⟩) ∧ Below w.heap.size w w' ∧ Num 16 u l := by
  go_enter Ybaf.func7, Ybaf.ntmps7
  go_wp2_with (go_at_call 17; refine (format17_16 u hu w hb).mono ?_; rintro e w' ⟨l, rfl, hbl, h1⟩; have HA : Hid (Below w.heap.size w w' ∧ Num 16 u l) := hide ⟨hbl, h1⟩; clear hbl h1)
  go_ret
  exact ⟨l, rfl, HA.out.1, HA.out.2⟩

theorem format_dec (u : Nat) (hu : u < 18446744073709551616) (w : World) (hp : Pow w) :
    Calls Ybaf.prog 7 #[.int .u64 u, .int .i64 10] w fun e w' => ∃ l : List UInt8, e = .returned (.string ⟨l.toArray⟩) ∧ Below w.heap.size w w' ∧ Num 10 u l := by
  go_enter Ybaf.func7, Ybaf.ntmps7
  go_wp2_with (go_at_call 17; refine (format17_10 u hu w hp).mono ?_; rintro e w' ⟨rfl, hbl⟩; have HA := hide hbl; clear hbl)
  go_ret
  exact ⟨_, rfl, HA.out, num_dec u hu⟩

theorem itoa_num (n : Nat) (h : n ≤ 1000) (w : World) (hp : Pow w) : Calls Ybaf.prog 6 #[.int .i64 n] w fun e w' => ∃ l : List UInt8, e = .returned (.string ⟨l.toArray⟩) ∧ Below w.heap.size w w' ∧ Num 10 n l := by
  refine (itoa_any n h w hp).mono ?_
  rintro e w' ⟨rfl, hb⟩
  exact ⟨_, rfl, hb, num_dec n (by omega)⟩

theorem decimal_of_num (l : List UInt8) (V : Nat) (w : World) (h : Num 10 V l) (hV : V ≤ 9223372036854775807) :
    Calls Ybaf.prog 22 #[.string ⟨l.toArray⟩] w fun e w' => e = .returned (.tuple #[.int .i64 V, .nilIface]) ∧ Below w.heap.size w w' :=
  parseDecimal_any ⟨l.toArray⟩ V w (by simpa using h.1) (by rw [Lib.size_eq]; have := h.2.1; simpa using (by omega : l.length ≤ 1000)) (by simpa using h.2.2.1) (by simpa using h.2.2.2) hV

theorem uint_of_num (l : List UInt8) (V : Nat) (w : World) (h : Num 10 V l) (hV : V ≤ 18446744073709551615) :
    Calls Ybaf.prog 20 #[.string ⟨l.toArray⟩, .int .i64 10, .int .i64 64] w fun e w' => e = .returned (.tuple #[.int .u64 V, .nilIface]) ∧ Below w.heap.size w w' :=
  parse20_10_64 ⟨l.toArray⟩ V w (by simpa using h.1) (by rw [Lib.size_eq]; have := h.2.1; simpa using (by omega : l.length ≤ 1000)) (by simpa using h.2.2.1) (by simpa using h.2.2.2) hV

theorem address_of_num (l : List UInt8) (V : Nat) (w : World) (h : Num 16 V l) (hV : V ≤ 18446744073709551615) :
    Calls Ybaf.prog 19 #[.string ⟨(48 :: 120 :: l).toArray⟩] w fun e w' => e = .returned (.tuple #[.int .u64 V, .nilIface]) ∧ Below w.heap.size w w' :=
  parseAddress_any l V w h.1 (by have := h.2.1; omega) h.2.2.1 h.2.2.2 hV
end Go.Proofs.YbulkmvuFmt
