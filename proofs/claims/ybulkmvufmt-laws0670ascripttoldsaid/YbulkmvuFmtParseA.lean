/-
  'parse' behind the header: alloc lines, and a second header.
-/
import Derived.Test.YbulkmvuFmtParseI
namespace Go.Proofs.YbulkmvuFmt
open Go.RowKit Go.Extern.Stop Go.Stop Go.Extern
set_option linter.unusedVariables false

theorem info44 : (Ybaf.prog.info? 44).map (fun i => (i.zero, i.size, i.bytes)) = some (some (.agg #[.int .u64 0, .int .u64 0]), 2, 16) := by kernel_rfl
theorem info3 : (Ybaf.prog.info? 3).map (fun i => (i.zero, i.size, i.bytes)) = some (some (.int .i64 0), 1, 8) := by kernel_rfl

set_option maxHeartbeats 4000000 in
set_option maxRecDepth 100000 in
theorem parse_again (F : Interp) (w : World) (own : Nat → List Nat) (lo B b c : Nat) (V : List Nat → Value) (C : List Nat → Nat) (X : List Nat → List Value) (line : Int) (R : Rws w own lo V C X) (hB : PBx w B V) (hBl : B < lo) (hlo : lo ≤ w.heap.size) (hc : 2 ≤ c) (hF : F.answers w.tape)
    (hk : w.cell? ⟨b, 0, none⟩ = some (.string ⟨#[112, 97, 103, 101, 119, 114, 105, 103, 104, 116, 45, 116, 114, 97, 99, 101]⟩)) :
    Calls Ybaf.prog 5 #[.pointer (some ⟨B, 0, none⟩), .slice (some ⟨b, 0, none⟩) 2 c, .int .i64 line] w fun e w' => (∃ a, e = .returned (.iface 75 (.pointer (some a)))) ∧ Below w.heap.size w w' := by
  have hc1 : ¬ c = 1 := by omega
  have hp2 : (1 : Int) ≤ (c : Int) := by omega
  have h3 : w.cell? ⟨B, 3, none⟩ = some (.bool true) := by rw [cell_of_row _ _ _ _ _ _ hB]; rfl
  have RR := hide R
  have HB := hide hB
  clear R hB
  go_enter Ybaf.func5, Ybaf.ntmps5
  go_wp2_with fail
  go_quiet (fail)
  generalize hw1 : w.drewN nq = w1
  have hb1 : Below w.heap.size w w1 := by rw [← hw1]; exact below_drewN (Below.refl _ _) _
  have hs1 : w1.heap.size = w.heap.size := by rw [← hw1]; rfl
  have g3 : w1.cell? ⟨B, 3, none⟩ = some (.bool true) := by rw [← hw1]; exact h3
  have gB : w1.heap[B]? = some (.cells #[V [8], V [0], .int .i64 4, .bool true, V [9]] 29 (0, 0)) := by rw [← hw1]; exact HB.out
  have g1 : w1.cell? ⟨B, 1, none⟩ = some (V [0]) := by rw [cell_of_row _ _ _ _ _ _ gB]; rfl
  have R1 : Hid (Rws w1 own lo V C X) := hide (RR.out.below hb1)
  have HB1 := hide hb1
  have HGB := hide gB
  have hF1 : F.answers w1.tape := by rw [← hw1]; exact hF
  clear hw1 hb1 h3 hk gB
  go_wp2_with fail
  refine (err_s F _ _ w.heap.size _ (by exact hF1) (fun w => by kernel_rfl) (by rw [← hs1]; exact boxed_cell w1 _ 20)).mono ?_
  rintro e w3 ⟨⟨a, rfl⟩, hb3⟩
  have HB3 : Hid (Below w.heap.size w w3) := hide (below_boxed HB1.out _ w3 hb3)
  clear hb3
  go_wp2_with fail
  go_ret
  exact ⟨⟨_, rfl⟩, HB3.out⟩

set_option maxHeartbeats 4000000 in
set_option maxRecDepth 100000 in
theorem parse_alloc_late (w : World) (own : Nat → List Nat) (lo B b c : Nat) (V : List Nat → Value) (C : List Nat → Nat) (X : List Nat → List Value) (line : Int) (R : Rws w own lo V C X) (hB : PBx w B V) (hBl : B < lo) (hlo : lo ≤ w.heap.size) (hc : 2 ≤ c) (hc3 : 3 ≤ c) (a0 : Option Addr) (n k0 : Nat) (hV : V [0] = .slice a0 (n + 1) k0)
    (hk : w.cell? ⟨b, 0, none⟩ = some (.string ⟨#[97, 108, 108, 111, 99]⟩)) :
    Calls Ybaf.prog 5 #[.pointer (some ⟨B, 0, none⟩), .slice (some ⟨b, 0, none⟩) (3) c, .int .i64 line] w fun e w' => (∃ a, e = .returned (.iface 75 (.pointer (some a)))) ∧ Below w.heap.size w w' := by
  have hn1 : (0 : Int) < (n : Int) + 1 := by omega
  have hc1 : ¬ c = 1 := by omega
  have hp2 : (1 : Int) ≤ (c : Int) := by omega
  have h3 : w.cell? ⟨B, 3, none⟩ = some (.bool true) := by rw [cell_of_row _ _ _ _ _ _ hB]; rfl
  have RR := hide R
  have HB := hide hB
  clear R hB
  go_enter Ybaf.func5, Ybaf.ntmps5
  go_wp2_with fail
  go_quiet (fail)
  generalize hw1 : w.drewN nq = w1
  have hb1 : Below w.heap.size w w1 := by rw [← hw1]; exact below_drewN (Below.refl _ _) _
  have hs1 : w1.heap.size = w.heap.size := by rw [← hw1]; rfl
  have g3 : w1.cell? ⟨B, 3, none⟩ = some (.bool true) := by rw [← hw1]; exact h3
  have gB : w1.heap[B]? = some (.cells #[V [8], V [0], .int .i64 4, .bool true, V [9]] 29 (0, 0)) := by rw [← hw1]; exact HB.out
  have g1 : w1.cell? ⟨B, 1, none⟩ = some (V [0]) := by rw [cell_of_row _ _ _ _ _ _ gB]; rfl
  have R1 : Hid (Rws w1 own lo V C X) := hide (RR.out.below hb1)
  have HB1 := hide hb1
  have HGB := hide gB
  rw [hV] at g1
  clear hw1 hb1 h3 hk gB
  go_wp2_with (first | (go_at_call 10; refine (new_any _ _).mono ?_; rintro e w2 ⟨⟨a, rfl⟩, hb2⟩; have HB2 := hide hb2; clear hb2) | fail)
  go_ret
  exact ⟨⟨_, rfl⟩, HB1.out.trans (HB2.out.mono HB1.out.size)⟩

set_option maxHeartbeats 4000000 in
set_option maxRecDepth 100000 in
theorem parse_alloc_bad (F : Interp) (w : World) (own : Nat → List Nat) (lo B b c : Nat) (V : List Nat → Value) (C : List Nat → Nat) (X : List Nat → List Value) (line : Int) (R : Rws w own lo V C X) (hB : PBx w B V) (hBl : B < lo) (hlo : lo ≤ w.heap.size) (hc : 2 ≤ c) (hc3 : 3 ≤ c) (a0 : Option Addr) (k0 : Nat) (hV : V [0] = .slice a0 0 k0) (A N : Nat) (l l2 : List UInt8) (hA : A ≤ 18446744073709551615) (hN : N ≤ 255) (n1 : Num 16 A l) (n2 : Num 10 N l2) (hbad : N = 0 ∨ 18446744073709551615 - A < N) (hF : F.answers w.tape)
    (hk : w.cell? ⟨b, 0, none⟩ = some (.string ⟨#[97, 108, 108, 111, 99]⟩)) (ha : w.cell? ⟨b, 1, none⟩ = some (.string ⟨(48 :: 120 :: l).toArray⟩)) (hb : w.cell? ⟨b, 2, none⟩ = some (.string ⟨l2.toArray⟩)) :
    Calls Ybaf.prog 5 #[.pointer (some ⟨B, 0, none⟩), .slice (some ⟨b, 0, none⟩) (3) c, .int .i64 line] w fun e w' => (∃ a, e = .returned (.iface 75 (.pointer (some a)))) ∧ Below w.heap.size w w' := by
  have hc1 : ¬ c = 1 := by omega
  have hp2 : (1 : Int) ≤ (c : Int) := by omega
  have h3 : w.cell? ⟨B, 3, none⟩ = some (.bool true) := by rw [cell_of_row _ _ _ _ _ _ hB]; rfl
  have RR := hide R
  have HB := hide hB
  clear R hB
  go_enter Ybaf.func5, Ybaf.ntmps5
  go_wp2_with fail
  go_quiet (fail)
  generalize hw1 : w.drewN nq = w1
  have hb1 : Below w.heap.size w w1 := by rw [← hw1]; exact below_drewN (Below.refl _ _) _
  have hs1 : w1.heap.size = w.heap.size := by rw [← hw1]; rfl
  have g3 : w1.cell? ⟨B, 3, none⟩ = some (.bool true) := by rw [← hw1]; exact h3
  have gB : w1.heap[B]? = some (.cells #[V [8], V [0], .int .i64 4, .bool true, V [9]] 29 (0, 0)) := by rw [← hw1]; exact HB.out
  have g1 : w1.cell? ⟨B, 1, none⟩ = some (V [0]) := by rw [cell_of_row _ _ _ _ _ _ gB]; rfl
  have R1 : Hid (Rws w1 own lo V C X) := hide (RR.out.below hb1)
  have HB1 := hide hb1
  have HGB := hide gB
  rw [hV] at g1
  have hcl := alloc_line (fun v => ∃ a, v = .iface 75 (.pointer (some a))) A N b 1 (c - 1) l l2 w1 hA hN n1 n2 (by rw [← hw1]; exact ha) (by rw [← hw1]; exact hb) (fun W hW => by
    have hFW : F.answers W.tape := by rw [hW, ← hw1]; exact hF
    by_cases h0 : N = 0
    · subst h0
      refine (alloc_zero F A W hFW).mono ?_
      rintro e w' ⟨⟨a, rfl⟩, hb⟩
      exact ⟨⟨_, rfl, a, rfl⟩, hb⟩
    · refine (alloc_big F A N W hFW (by omega) (by omega) (by omega) (by omega)).mono ?_
      rintro e w' ⟨⟨a, rfl⟩, hb⟩
      exact ⟨⟨_, rfl, a, rfl⟩, hb⟩)
  have HCL := hide hcl
  clear hw1 hb1 h3 hk gB ha hb hcl
  go_wp2_with (first | (go_at_call 11; refine HCL.out.mono ?_; rintro e w2 ⟨⟨v, rfl, a, rfl⟩, hb2⟩; have HB2 := hide hb2; clear hb2) | fail)
  go_ret
  exact ⟨⟨_, rfl⟩, HB1.out.trans ((HB2.out.trans ((Below.refl _ _).alloc HB2.out.size _)).mono HB1.out.size)⟩

set_option maxHeartbeats 4000000 in
set_option maxRecDepth 100000 in
theorem parse_alloc (w : World) (own : Nat → List Nat) (lo B b c : Nat) (V : List Nat → Value) (C : List Nat → Nat) (X : List Nat → List Value) (line : Int) (R : Rws w own lo V C X) (hB : PBx w B V) (hBl : B < lo) (hlo : lo ≤ w.heap.size) (hc : 2 ≤ c) (hc3 : 3 ≤ c) (a0 : Option Addr) (k0 : Nat) (hV : V [0] = .slice a0 0 k0) (A N : Nat) (l l2 : List UInt8) (hA : A ≤ 18446744073709551615) (hN : N ≤ 255) (n1 : Num 16 A l) (n2 : Num 10 N l2) (hN0 : 0 < N) (hok : N ≤ 18446744073709551615 - A) (hC8 : C [8] ≤ 2000) (hC9 : C [9] ≤ 2000)
    (hk : w.cell? ⟨b, 0, none⟩ = some (.string ⟨#[97, 108, 108, 111, 99]⟩)) (ha : w.cell? ⟨b, 1, none⟩ = some (.string ⟨(48 :: 120 :: l).toArray⟩)) (hb : w.cell? ⟨b, 2, none⟩ = some (.string ⟨l2.toArray⟩)) :
    Calls Ybaf.prog 5 #[.pointer (some ⟨B, 0, none⟩), .slice (some ⟨b, 0, none⟩) (3) c, .int .i64 line] w fun e w' => e = .returned .nilIface ∧ Kp B lo w w' ∧ ∃ own' v8 v9, Rws w' own' lo (upd (upd V [8] v8) [9] v9) (upd (upd C [8] (C [8] + 1)) [9] (C [9] + 1)) (upd (upd X [8] (X [8] ++ [.int .u64 A, .int .u64 N])) [9] (X [9] ++ [.int .i64 line])) ∧ PBx w' B (upd (upd V [8] v8) [9] v9) := by
  obtain ⟨i44, hi, hz0, hz1, hz2⟩ := info_parts info44
  obtain ⟨i3, hj, hy0, hy1, hy2⟩ := info_parts info3
  have hc1 : ¬ c = 1 := by omega
  have hp2 : (1 : Int) ≤ (c : Int) := by omega
  have h3 : w.cell? ⟨B, 3, none⟩ = some (.bool true) := by rw [cell_of_row _ _ _ _ _ _ hB]; rfl
  have RR := hide R
  have HB := hide hB
  clear R hB
  go_enter Ybaf.func5, Ybaf.ntmps5
  go_wp2_with fail
  go_quiet (fail)
  generalize hw1 : w.drewN nq = w1
  have hb1 : Below w.heap.size w w1 := by rw [← hw1]; exact below_drewN (Below.refl _ _) _
  have hs1 : w1.heap.size = w.heap.size := by rw [← hw1]; rfl
  have g3 : w1.cell? ⟨B, 3, none⟩ = some (.bool true) := by rw [← hw1]; exact h3
  have gB : w1.heap[B]? = some (.cells #[V [8], V [0], .int .i64 4, .bool true, V [9]] 29 (0, 0)) := by rw [← hw1]; exact HB.out
  have g1 : w1.cell? ⟨B, 1, none⟩ = some (V [0]) := by rw [cell_of_row _ _ _ _ _ _ gB]; rfl
  have R1 : Hid (Rws w1 own lo V C X) := hide (RR.out.below hb1)
  have HB1 := hide hb1
  have HGB := hide gB
  rw [hV] at g1
  have hcl := alloc_line (fun v => v = .nilIface) A N b 1 (c - 1) l l2 w1 hA hN n1 n2 (by rw [← hw1]; exact ha) (by rw [← hw1]; exact hb) (fun W hW => by
    refine (alloc_ok A N W (by omega) (by omega) (by omega) (by omega)).mono ?_
    rintro e w' ⟨rfl, hb⟩
    exact ⟨⟨_, rfl, rfl⟩, hb⟩)
  have HCL := hide hcl
  clear hw1 hb1 h3 hk gB ha hb hcl
  go_wp2_with (first | (go_at_call 11; refine HCL.out.mono ?_; rintro e w2 ⟨⟨v, rfl, rfl⟩, hb2⟩; have HB2 := hide hb2; clear hb2) | fail)
  generalize hw5 : w2.alloc _ = w5
  have hs2 := HB2.out.size
  have hb5 : Below w1.heap.size w1 w5 := by rw [← hw5]; exact HB2.out.alloc hs2 _
  have hs5 : w5.heap.size = w2.heap.size + 1 := by rw [← hw5]; simp
  have hy5 : w5.heap[w2.heap.size]? = some (.cells #[.int .u64 A, .int .u64 N] 44 (0, 0)) := by rw [← hw5]; exact heap_alloc_new w2 _
  have gB5 : w5.heap[B]? = some (.cells #[V [8], V [0], .int .i64 4, .bool true, V [9]] 29 (0, 0)) := (hb5.block B (by omega)).trans HGB.out
  have d0 : w5.drew.cell? ⟨w2.heap.size, 0, none⟩ = some (.int .u64 A) := by rw [show w5.drew.cell? ⟨w2.heap.size, 0, none⟩ = w5.cell? ⟨w2.heap.size, 0, none⟩ from rfl, cell_of_row _ _ _ _ _ _ hy5]; rfl
  have d1 : w5.drew.cell? ⟨w2.heap.size, 1, none⟩ = some (.int .u64 N) := by rw [show w5.drew.cell? ⟨w2.heap.size, 1, none⟩ = w5.cell? ⟨w2.heap.size, 1, none⟩ from rfl, cell_of_row _ _ _ _ _ _ hy5]; rfl
  have e8 : w5.drew.cell? ⟨B, 0, none⟩ = some (V [8]) := by rw [show w5.drew.cell? ⟨B, 0, none⟩ = w5.cell? ⟨B, 0, none⟩ from rfl, cell_of_row _ _ _ _ _ _ gB5]; rfl
  have e8' : (w5.alloc (.cells #[.int .u64 A, .int .u64 N] 44)).cell? ⟨B, 0, none⟩ = some (V [8]) := (World.cell?_of_block (w := w5) (Below.heap_alloc _ _ _ (by show B < w5.heap.size; omega))).trans e8
  have R5 : Hid (Rws (w5.alloc (.cells #[.int .u64 A, .int .u64 N] 44)).drew own lo V C X) := hide ((R1.out.below hb5).below ((Below.refl _ _).alloc (Nat.le_refl _) _).drew)
  have HNW : Hid (∀ j u, [Value.int .u64 A, .int .u64 N][j]? = some u → (w5.alloc (.cells #[.int .u64 A, .int .u64 N] 44)).drew.cell? ((⟨w5.heap.size, 0, none⟩ : Addr).add j) = some u) := hide (cell_two_new w5 _ _ 44)
  have HB5 := hide hb5
  have HGB5 := hide gB5
  have hlw : lo ≤ w5.heap.size := by omega
  clear hw5 hb5 hy5 gB5
  go_wp2_with fail
  go_region_law (refine step_append_rws rfl (.tmp 82) (.tmp 84) 23 rfl [8] i44 _ 16 Ybaf.underlying23 hi hz0 hz1 hz2 rfl (by decide) (by simp [Act.eval]) R5.out ⟨w5.heap.size, 0, none⟩ 1 [.int .u64 A, .int .u64 N] (by simp [Act.eval]) rfl HNW.out (by intro u hu; simp at hu; rcases hu with rfl | rfl <;> rfl) hC8 (by omega) (by simp; omega) ?_; intro v' w6 own' R6 hb6 hs6 hv6; have HR6 := hide R6; have HB6 := hide hb6; obtain ⟨g8, cap8, rfl⟩ := hv6; have x2 : w6.heap[B]? = some (.cells #[V [8], V [0], .int .i64 4, .bool true, V [9]] 29 (0, 0)) := (hb6.block B hBl).trans ((Below.heap_alloc _ _ _ (by show B < w5.heap.size; omega)).trans HGB5.out); have x3 : w6.cell? ⟨B, 0, none⟩ = some (V [8]) := (by rw [cell_of_row _ _ _ _ _ _ x2]; rfl); have x4 : w6.frozen? ⟨B, 0, none⟩ = false := frozen_of_row _ _ _ _ _ x2; have HX2 := hide x2; clear R6 hb6 x2)
  all_goals (
    have hK6 : Kp B lo w (w6.setCell ⟨B, 0, none⟩ (.slice (some ⟨g8, 0, none⟩) (C [8] + 1) cap8)) := (((Kp.of_below (HB1.out.mono hlo) (by omega)).trans (Kp.of_below (HB5.out.mono (by omega)) (by omega))).trans (Kp.of_below ((((Below.refl lo w5).alloc hlw _).drew).trans HB6.out) (by have := hs6; simp at this; omega))).trans (Kp.of_set _ _ _)
    have hs7 : lo ≤ (w6.setCell ⟨B, 0, none⟩ (.slice (some ⟨g8, 0, none⟩) (C [8] + 1) cap8)).heap.size := by have := hs6; simp [World.setCell] at this ⊢; omega
    refine exit_letter (fun w7 => Kp B lo w w7 ∧ lo ≤ w7.heap.size ∧ Rws w7 own' lo (upd V [8] (.slice (some ⟨g8, 0, none⟩) (C [8] + 1) cap8)) (upd C [8] (C [8] + 1)) (upd X [8] (X [8] ++ [.int .u64 A, .int .u64 N])) ∧ w7.heap[B]? = some (.cells #[.slice (some ⟨g8, 0, none⟩) (C [8] + 1) cap8, V [0], .int .i64 4, .bool true, V [9]] 29 (0, 0))) ⟨hK6, hs7, HR6.out.box hBl 0 _, heap_setCell_same w6 B 0 _ 29 _ HX2.out⟩ ?_
    rintro w7 ⟨k7, l7, R7, b7⟩
    have y4 : w7.cell? ⟨B, 4, none⟩ = some (V [9]) := by rw [cell_of_row _ _ _ _ _ _ b7]; rfl
    have HK7 := hide k7
    have HR7 := hide R7
    have HB7 := hide b7
    clear hK6 hs7 k7 R7 b7 x3 x4 e8 e8' d0 d1 HR6 HX2 HB6
    go_wp2_with (first | (refine wpList_append_stop rfl _ _ 27 rfl ?_) | fail)
    refine ⟨1, rfl, ?_⟩
    have R8 : Rws (w7.alloc (.cells #[.int .i64 line] 3)) own' lo (upd V [8] (.slice (some ⟨g8, 0, none⟩) (C [8] + 1) cap8)) (upd C [8] (C [8] + 1)) (upd X [8] (X [8] ++ [.int .u64 A, .int .u64 N])) := HR7.out.below ((Below.refl _ _).alloc (Nat.le_refl _) _)
    have hv9 : upd V [8] (.slice (some ⟨g8, 0, none⟩) (C [8] + 1) cap8) [9] = V [9] := upd_other _ _ (by decide)
    have hc9 : upd C [8] (C [8] + 1) [9] = C [9] := upd_other _ _ (by decide)
    have hx9 : upd X [8] (X [8] ++ [.int .u64 A, .int .u64 N]) [9] = X [9] := upd_other _ _ (by decide)
    refine wpList_append_rws rfl (.tmp 93) (.tmp 95) 27 rfl [9] i3 _ 8 Ybaf.underlying27 hj hy0 hy1 hy2 rfl (by decide) ?hs R8 ⟨w7.heap.size, 0, none⟩ 1 [.int .i64 line] ?hx rfl ?hn ?h1 (by rw [hc9]; exact hC9) (by omega) ?hl ?_
    case hs => rw [hv9]; rfl
    case hx => rfl
    case hn =>
      intro j u hu
      have hj0 : j = 0 := by have := (List.getElem?_eq_some_iff.1 hu).1; simpa using this
      subst hj0
      simp at hu
      subst hu
      exact boxed_cell w7 _ 3
    case h1 => intro u hu; simp at hu; subst hu; rfl
    case hl => simp; omega
    intro v9 w8 own9 R9 hb9 hs9 hv
    rw [hc9] at hv
    obtain ⟨g9, cap9, rfl⟩ := hv
    rw [hc9, hx9] at R9
    have z2 : w8.heap[B]? = some (.cells #[.slice (some ⟨g8, 0, none⟩) (C [8] + 1) cap8, V [0], .int .i64 4, .bool true, V [9]] 29 (0, 0)) := (hb9.block B hBl).trans ((Below.heap_alloc _ _ _ (by show B < w7.heap.size; omega)).trans HB7.out)
    have z3 : w8.cell? ⟨B, 4, none⟩ = some (V [9]) := by rw [cell_of_row _ _ _ _ _ _ z2]; rfl
    have z4 : w8.frozen? ⟨B, 4, none⟩ = false := frozen_of_row _ _ _ _ _ z2
    have f1 : Kp B lo w (w8.setCell ⟨B, 4, none⟩ (.slice (some ⟨g9, 0, none⟩) (C [9] + 1) cap9)) := (HK7.out.trans (Kp.of_below (((Below.refl lo w7).alloc l7 _).trans hb9) (by have := hs9; simp at this; omega))).trans (Kp.of_set _ _ _)
    have f2 := R9.box hBl 4 (.slice (some ⟨g9, 0, none⟩) (C [9] + 1) cap9)
    have f3 : PBx (w8.setCell ⟨B, 4, none⟩ (.slice (some ⟨g9, 0, none⟩) (C [9] + 1) cap9)) B (upd (upd V [8] (.slice (some ⟨g8, 0, none⟩) (C [8] + 1) cap8)) [9] (.slice (some ⟨g9, 0, none⟩) (C [9] + 1) cap9)) := heap_setCell_same w8 B 4 _ 29 _ z2
    have HF := hide (And.intro f1 (And.intro f2 f3))
    clear f1 f2 f3 R9 hb9 z2 R8 y4 hv9 hc9 hx9
    go_wp2_with fail
    go_ret
    exact ⟨rfl, HF.out.1, own9, _, _, HF.out.2.1, HF.out.2.2⟩)
end Go.Proofs.YbulkmvuFmt
