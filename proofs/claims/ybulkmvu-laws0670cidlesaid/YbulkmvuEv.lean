/-
  Events and their order, in plain terms; and what '(*event).before' and 'zzs0670bless' answer.
-/
import Derived.Test.YbulkmvuProg
import Derived.WalkKit
import Derived.WalkSpells
import Derived.WalkLawsBesides
import Derived.Deep.QuietTactic
import Derived.BigQuiet
namespace Go.Proofs.Ybulkmvu.Ev
open Go.RowKit

theorem hide {p : Prop} (h : p) : Hid p := h

/-- An event, as far as the queue looks at it. -/
structure Ev where
  t : Int
  st : Int
  cu : Int
  seq : Int

/-- It is handled before: by cycle, stage, compute unit, then number. -/
def Lt (a b : Ev) : Prop := a.t < b.t ∨ a.t = b.t ∧ (a.st < b.st ∨ a.st = b.st ∧ (a.cu < b.cu ∨ a.cu = b.cu ∧ a.seq < b.seq))

theorem Lt.asymm {a b : Ev} (h : Lt a b) : ¬ Lt b a := by unfold Lt at *; omega
theorem Lt.irrefl (a : Ev) : ¬ Lt a a := by unfold Lt; omega
theorem Lt.trans {a b c : Ev} (h : Lt a b) (k : Lt b c) : Lt a c := by unfold Lt at *; omega
theorem nLt_trans {a b c : Ev} (h : ¬ Lt a b) (k : ¬ Lt b c) : ¬ Lt a c := by unfold Lt at *; omega

def evCells (e : Ev) : List Value := [.int .i64 e.t, .int .u8 e.st, .int .u32 0, .int .i64 e.cu, .int .u64 e.seq, .pointer none, .pointer none, .pointer none, .pointer none, .pointer none]
theorem evLen (e : Ev) : (evCells e).length = 10 := rfl

/-- What is read of an event at an address. -/
def At (w : World) (b o : Nat) (e : Ev) : Prop :=
  w.cell? ⟨b, o, none⟩ = some (.int .i64 e.t) ∧ w.cell? ⟨b, o + 1, none⟩ = some (.int .u8 e.st) ∧ w.cell? ⟨b, o + 3, none⟩ = some (.int .i64 e.cu) ∧ w.cell? ⟨b, o + 4, none⟩ = some (.int .u64 e.seq)

set_option maxHeartbeats 400000 in
theorem before_t (w : World) (b o b' o' : Nat) (x y : Ev) (hx : At w b o x) (hy : At w b' o' y) (h1 : ¬ x.t = y.t) :
    Calls Yba.prog 15 #[.pointer (some ⟨b, o, none⟩), .pointer (some ⟨b', o', none⟩)] w fun e w' => e = .returned (.bool (decide (x.t < y.t))) ∧ ∃ n, w' = w.drewN n := by
  obtain ⟨c0, c1, c3, c4⟩ := hx
  obtain ⟨d0, d1, d3, d4⟩ := hy
  have ht : (x.t != y.t) = true := by simpa using h1
  clear h1
  go_enter Yba.func15, Yba.ntmps15
  go_wp2_with fail
  go_quiet (fail)
  go_wp2_with fail
  go_quiet (fail)
  go_wp2_with fail
  go_ret
  refine ⟨rfl, ?_⟩
  simp only [World.drewN_drewN]
  exact ⟨_, rfl⟩

set_option maxHeartbeats 400000 in
theorem before_s (w : World) (b o b' o' : Nat) (x y : Ev) (hx : At w b o x) (hy : At w b' o' y) (h1 : x.t = y.t) (h2 : ¬ x.st = y.st) :
    Calls Yba.prog 15 #[.pointer (some ⟨b, o, none⟩), .pointer (some ⟨b', o', none⟩)] w fun e w' => e = .returned (.bool (decide (x.st < y.st))) ∧ ∃ n, w' = w.drewN n := by
  obtain ⟨c0, c1, c3, c4⟩ := hx
  obtain ⟨d0, d1, d3, d4⟩ := hy
  have ht : (x.t != y.t) = false := by simpa using h1
  have hs : (x.st != y.st) = true := by simpa using h2
  clear h1 h2
  go_enter Yba.func15, Yba.ntmps15
  go_wp2_with fail
  go_quiet (fail)
  go_wp2_with fail
  go_quiet (fail)
  go_wp2_with fail
  go_quiet (fail)
  go_wp2_with fail
  go_ret
  refine ⟨rfl, ?_⟩
  simp only [World.drewN_drewN]
  exact ⟨_, rfl⟩

set_option maxHeartbeats 400000 in
theorem before_c (w : World) (b o b' o' : Nat) (x y : Ev) (hx : At w b o x) (hy : At w b' o' y) (h1 : x.t = y.t) (h2 : x.st = y.st) (h3 : ¬ x.cu = y.cu) :
    Calls Yba.prog 15 #[.pointer (some ⟨b, o, none⟩), .pointer (some ⟨b', o', none⟩)] w fun e w' => e = .returned (.bool (decide (x.cu < y.cu))) ∧ ∃ n, w' = w.drewN n := by
  obtain ⟨c0, c1, c3, c4⟩ := hx
  obtain ⟨d0, d1, d3, d4⟩ := hy
  have ht : (x.t != y.t) = false := by simpa using h1
  have hs : (x.st != y.st) = false := by simpa using h2
  have hc : (x.cu != y.cu) = true := by simpa using h3
  clear h1 h2 h3
  go_enter Yba.func15, Yba.ntmps15
  go_wp2_with fail
  go_quiet (fail)
  go_wp2_with fail
  go_quiet (fail)
  go_wp2_with fail
  go_quiet (fail)
  go_wp2_with fail
  go_quiet (fail)
  go_wp2_with fail
  go_ret
  refine ⟨rfl, ?_⟩
  simp only [World.drewN_drewN]
  exact ⟨_, rfl⟩

set_option maxHeartbeats 400000 in
theorem before_q (w : World) (b o b' o' : Nat) (x y : Ev) (hx : At w b o x) (hy : At w b' o' y) (h1 : x.t = y.t) (h2 : x.st = y.st) (h3 : x.cu = y.cu) :
    Calls Yba.prog 15 #[.pointer (some ⟨b, o, none⟩), .pointer (some ⟨b', o', none⟩)] w fun e w' => e = .returned (.bool (decide (x.seq < y.seq))) ∧ ∃ n, w' = w.drewN n := by
  obtain ⟨c0, c1, c3, c4⟩ := hx
  obtain ⟨d0, d1, d3, d4⟩ := hy
  have ht : (x.t != y.t) = false := by simpa using h1
  have hs : (x.st != y.st) = false := by simpa using h2
  have hc : (x.cu != y.cu) = false := by simpa using h3
  clear h1 h2 h3
  go_enter Yba.func15, Yba.ntmps15
  go_wp2_with fail
  go_quiet (fail)
  go_wp2_with fail
  go_quiet (fail)
  go_wp2_with fail
  go_quiet (fail)
  go_wp2_with fail
  go_quiet (fail)
  go_wp2_with fail
  go_ret
  refine ⟨rfl, ?_⟩
  simp only [World.drewN_drewN]
  exact ⟨_, rfl⟩

theorem before_any (w : World) (b o b' o' : Nat) (x y : Ev) (hx : At w b o x) (hy : At w b' o' y) (r : Bool) (hr : r = true ↔ Lt x y) :
    Calls Yba.prog 15 #[.pointer (some ⟨b, o, none⟩), .pointer (some ⟨b', o', none⟩)] w fun e w' => e = .returned (.bool r) ∧ ∃ n, w' = w.drewN n := by
  by_cases h1 : x.t = y.t
  · by_cases h2 : x.st = y.st
    · by_cases h3 : x.cu = y.cu
      · have e : r = decide (x.seq < y.seq) := by rw [Bool.eq_iff_iff, hr, decide_eq_true_eq]; unfold Lt; omega
        rw [e]; exact before_q w b o b' o' x y hx hy h1 h2 h3
      · have e : r = decide (x.cu < y.cu) := by rw [Bool.eq_iff_iff, hr, decide_eq_true_eq]; unfold Lt; omega
        rw [e]; exact before_c w b o b' o' x y hx hy h1 h2 h3
    · have e : r = decide (x.st < y.st) := by rw [Bool.eq_iff_iff, hr, decide_eq_true_eq]; unfold Lt; omega
      rw [e]; exact before_s w b o b' o' x y hx hy h1 h2
  · have e : r = decide (x.t < y.t) := by rw [Bool.eq_iff_iff, hr, decide_eq_true_eq]; unfold Lt; omega
    rw [e]; exact before_t w b o b' o' x y hx hy h1

set_option maxHeartbeats 400000 in
theorem less_1 (w : World) (b o b' o' : Nat) (x y : Ev) (hx : At w b o x) (hy : At w b' o' y) (h : x.t < y.t) :
    Calls Yba.prog 10 #[.pointer (some ⟨b, o, none⟩), .pointer (some ⟨b', o', none⟩)] w fun e w' => e = .returned (.bool true) ∧ ∃ n, w' = w.drewN n := by
  obtain ⟨c0, c1, c3, c4⟩ := hx
  obtain ⟨d0, d1, d3, d4⟩ := hy
  go_enter Yba.func10, Yba.ntmps10
  go_wp2_with fail
  go_quiet (fail)
  go_wp2_with fail
  go_ret
  exact ⟨rfl, _, rfl⟩

set_option maxHeartbeats 400000 in
theorem less_2 (w : World) (b o b' o' : Nat) (x y : Ev) (hx : At w b o x) (hy : At w b' o' y) (h : y.t < x.t) :
    Calls Yba.prog 10 #[.pointer (some ⟨b, o, none⟩), .pointer (some ⟨b', o', none⟩)] w fun e w' => e = .returned (.bool false) ∧ ∃ n, w' = w.drewN n := by
  obtain ⟨c0, c1, c3, c4⟩ := hx
  obtain ⟨d0, d1, d3, d4⟩ := hy
  go_enter Yba.func10, Yba.ntmps10
  go_wp2_with fail
  go_quiet (fail)
  go_wp2_with fail
  go_quiet (fail)
  go_wp2_with fail
  go_ret
  refine ⟨rfl, ?_⟩
  simp only [World.drewN_drewN]
  exact ⟨_, rfl⟩

set_option maxHeartbeats 400000 in
theorem less_3 (w : World) (b o b' o' : Nat) (x y : Ev) (hx : At w b o x) (hy : At w b' o' y) (h1 : ¬ x.t < y.t) (h2 : ¬ y.t < x.t) (h : x.st < y.st) :
    Calls Yba.prog 10 #[.pointer (some ⟨b, o, none⟩), .pointer (some ⟨b', o', none⟩)] w fun e w' => e = .returned (.bool true) ∧ ∃ n, w' = w.drewN n := by
  obtain ⟨c0, c1, c3, c4⟩ := hx
  obtain ⟨d0, d1, d3, d4⟩ := hy
  go_enter Yba.func10, Yba.ntmps10
  go_wp2_with fail
  go_quiet (fail)
  go_wp2_with fail
  go_quiet (fail)
  go_wp2_with fail
  go_quiet (fail)
  go_wp2_with fail
  go_ret
  refine ⟨rfl, ?_⟩
  simp only [World.drewN_drewN]
  exact ⟨_, rfl⟩

set_option maxHeartbeats 400000 in
theorem less_4 (w : World) (b o b' o' : Nat) (x y : Ev) (hx : At w b o x) (hy : At w b' o' y) (h1 : ¬ x.t < y.t) (h2 : ¬ y.t < x.t) (h : y.st < x.st) :
    Calls Yba.prog 10 #[.pointer (some ⟨b, o, none⟩), .pointer (some ⟨b', o', none⟩)] w fun e w' => e = .returned (.bool false) ∧ ∃ n, w' = w.drewN n := by
  obtain ⟨c0, c1, c3, c4⟩ := hx
  obtain ⟨d0, d1, d3, d4⟩ := hy
  go_enter Yba.func10, Yba.ntmps10
  go_wp2_with fail
  go_quiet (fail)
  go_wp2_with fail
  go_quiet (fail)
  go_wp2_with fail
  go_quiet (fail)
  go_wp2_with fail
  go_quiet (fail)
  go_wp2_with fail
  go_ret
  refine ⟨rfl, ?_⟩
  simp only [World.drewN_drewN]
  exact ⟨_, rfl⟩

set_option maxHeartbeats 400000 in
theorem less_5 (w : World) (b o b' o' : Nat) (x y : Ev) (hx : At w b o x) (hy : At w b' o' y) (h1 : ¬ x.t < y.t) (h2 : ¬ y.t < x.t) (h3 : ¬ x.st < y.st) (h4 : ¬ y.st < x.st) (h : x.cu < y.cu) :
    Calls Yba.prog 10 #[.pointer (some ⟨b, o, none⟩), .pointer (some ⟨b', o', none⟩)] w fun e w' => e = .returned (.bool true) ∧ ∃ n, w' = w.drewN n := by
  obtain ⟨c0, c1, c3, c4⟩ := hx
  obtain ⟨d0, d1, d3, d4⟩ := hy
  go_enter Yba.func10, Yba.ntmps10
  go_wp2_with fail
  go_quiet (fail)
  go_wp2_with fail
  go_quiet (fail)
  go_wp2_with fail
  go_quiet (fail)
  go_wp2_with fail
  go_quiet (fail)
  go_wp2_with fail
  go_quiet (fail)
  go_wp2_with fail
  go_ret
  refine ⟨rfl, ?_⟩
  simp only [World.drewN_drewN]
  exact ⟨_, rfl⟩

set_option maxHeartbeats 400000 in
theorem less_6 (w : World) (b o b' o' : Nat) (x y : Ev) (hx : At w b o x) (hy : At w b' o' y) (h1 : ¬ x.t < y.t) (h2 : ¬ y.t < x.t) (h3 : ¬ x.st < y.st) (h4 : ¬ y.st < x.st) (h : y.cu < x.cu) :
    Calls Yba.prog 10 #[.pointer (some ⟨b, o, none⟩), .pointer (some ⟨b', o', none⟩)] w fun e w' => e = .returned (.bool false) ∧ ∃ n, w' = w.drewN n := by
  obtain ⟨c0, c1, c3, c4⟩ := hx
  obtain ⟨d0, d1, d3, d4⟩ := hy
  go_enter Yba.func10, Yba.ntmps10
  go_wp2_with fail
  go_quiet (fail)
  go_wp2_with fail
  go_quiet (fail)
  go_wp2_with fail
  go_quiet (fail)
  go_wp2_with fail
  go_quiet (fail)
  go_wp2_with fail
  go_quiet (fail)
  go_wp2_with fail
  go_quiet (fail)
  go_wp2_with fail
  go_ret
  refine ⟨rfl, ?_⟩
  simp only [World.drewN_drewN]
  exact ⟨_, rfl⟩

set_option maxHeartbeats 400000 in
theorem less_7 (w : World) (b o b' o' : Nat) (x y : Ev) (hx : At w b o x) (hy : At w b' o' y) (h1 : ¬ x.t < y.t) (h2 : ¬ y.t < x.t) (h3 : ¬ x.st < y.st) (h4 : ¬ y.st < x.st) (h5 : ¬ x.cu < y.cu) (h6 : ¬ y.cu < x.cu) :
    Calls Yba.prog 10 #[.pointer (some ⟨b, o, none⟩), .pointer (some ⟨b', o', none⟩)] w fun e w' => e = .returned (.bool (decide (x.seq < y.seq))) ∧ ∃ n, w' = w.drewN n := by
  obtain ⟨c0, c1, c3, c4⟩ := hx
  obtain ⟨d0, d1, d3, d4⟩ := hy
  go_enter Yba.func10, Yba.ntmps10
  go_wp2_with fail
  go_quiet (fail)
  go_wp2_with fail
  go_quiet (fail)
  go_wp2_with fail
  go_quiet (fail)
  go_wp2_with fail
  go_quiet (fail)
  go_wp2_with fail
  go_quiet (fail)
  go_wp2_with fail
  go_quiet (fail)
  go_wp2_with fail
  go_quiet (fail)
  go_wp2_with fail
  go_ret
  refine ⟨rfl, ?_⟩
  simp only [World.drewN_drewN]
  exact ⟨_, rfl⟩

theorem less_any (w : World) (b o b' o' : Nat) (x y : Ev) (hx : At w b o x) (hy : At w b' o' y) (r : Bool) (hr : r = true ↔ Lt x y) :
    Calls Yba.prog 10 #[.pointer (some ⟨b, o, none⟩), .pointer (some ⟨b', o', none⟩)] w fun e w' => e = .returned (.bool r) ∧ ∃ n, w' = w.drewN n := by
  by_cases h1 : x.t < y.t
  · have e : r = true := by rw [hr]; unfold Lt; omega
    rw [e]; exact less_1 w b o b' o' x y hx hy h1
  · by_cases h2 : y.t < x.t
    · have e : r = false := by rw [Bool.eq_false_iff, Ne, hr]; unfold Lt; omega
      rw [e]; exact less_2 w b o b' o' x y hx hy h2
    · by_cases h3 : x.st < y.st
      · have e : r = true := by rw [hr]; unfold Lt; omega
        rw [e]; exact less_3 w b o b' o' x y hx hy h1 h2 h3
      · by_cases h4 : y.st < x.st
        · have e : r = false := by rw [Bool.eq_false_iff, Ne, hr]; unfold Lt; omega
          rw [e]; exact less_4 w b o b' o' x y hx hy h1 h2 h4
        · by_cases h5 : x.cu < y.cu
          · have e : r = true := by rw [hr]; unfold Lt; omega
            rw [e]; exact less_5 w b o b' o' x y hx hy h1 h2 h3 h4 h5
          · by_cases h6 : y.cu < x.cu
            · have e : r = false := by rw [Bool.eq_false_iff, Ne, hr]; unfold Lt; omega
              rw [e]; exact less_6 w b o b' o' x y hx hy h1 h2 h3 h4 h6
            · have e : r = decide (x.seq < y.seq) := by rw [Bool.eq_iff_iff, hr, decide_eq_true_eq]; unfold Lt; omega
              rw [e]; exact less_7 w b o b' o' x y hx hy h1 h2 h3 h4 h5 h6

end Go.Proofs.Ybulkmvu.Ev
