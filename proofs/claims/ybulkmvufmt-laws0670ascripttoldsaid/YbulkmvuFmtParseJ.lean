/-
  'parse' behind the header: lines of instructions that are read.
-/
import Derived.Test.YbulkmvuFmtParseI
namespace Go.Proofs.YbulkmvuFmt
open Go.RowKit Go.Extern.Stop Go.Stop Go.Extern
set_option linter.unusedVariables false

set_option maxHeartbeats 4000000 in
set_option maxRecDepth 100000 in
theorem parse_r5 (F : Interp) (w : World) (own : Nat → List Nat) (lo B b c : Nat) (V : List Nat → Value) (C : List Nat → Nat) (X : List Nat → List Value) (line : Int) (R : Rws w own lo V C X) (hB : PBx w B V) (hBl : B < lo) (hlo : lo ≤ w.heap.size) (hc : 2 ≤ c) (g n k0 g1' m k1 g2 p k2 : Nat) (a3 : Option Addr) (k3 : Nat) (hn : n ≤ 2000) (hm : m ≤ 2000) (hpp : p ≤ 2000) (hV : V [0] = .slice (some ⟨g, 0, none⟩) (n + 1) k0) (hV1 : V [1, n] = .slice (some ⟨g1', 0, none⟩) (m + 1) k1) (hV2 : V [2, n, m] = .slice (some ⟨g2, 0, none⟩) (p + 1) k2)
    (hX : (X [0])[n * 2 + 1]? = some (V [1, n])) (hX1 : (X [1, n])[m]? = some (V [2, n, m])) (hc6 : 6 ≤ c) (hF : F.answers w.tape)
    (hk : w.cell? ⟨b, 0, none⟩ = some (.string ⟨#[114]⟩)) :
    Calls Ybaf.prog 5 #[.pointer (some ⟨B, 0, none⟩), .slice (some ⟨b, 0, none⟩) (6) c, .int .i64 line] w fun e w' => (∃ a, e = .returned (.iface 75 (.pointer (some a)))) ∧ Below w.heap.size w w' := by
  obtain ⟨hgs, hv1⟩ : g < w.heap.size ∧ w.cell? ⟨g, n * 2 + 1, none⟩ = some (.slice (some ⟨g1', 0, none⟩) (m + 1) k1) := by
    have := R.cellAt hV hX
    rw [hV1] at this
    exact this
  obtain ⟨hgs1, hv2⟩ : g1' < w.heap.size ∧ w.cell? ⟨g1', m, none⟩ = some (.slice (some ⟨g2, 0, none⟩) (p + 1) k2) := by
    have := R.cellAt hV1 hX1
    rw [hV2] at this
    exact this
  have hc1 : ¬ c = 1 := by omega
  have hp2 : (1 : Int) ≤ (c : Int) := by omega
  have h3 : w.cell? ⟨B, 3, none⟩ = some (.bool true) := by rw [cell_of_row _ _ _ _ _ _ hB]; rfl
  have RR := hide R
  have HB := hide hB
  clear R hB
  go_enter Ybaf.func5, Ybaf.ntmps5
  go_wp2_with fail
  go_quiet (fail)
  generalize hw1 : w.drewN nq = w1
  have hb1 : Below w.heap.size w w1 := by rw [← hw1]; exact below_drewN (Below.refl _ _) _
  have hs1 : w1.heap.size = w.heap.size := by rw [← hw1]; rfl
  have g3 : w1.cell? ⟨B, 3, none⟩ = some (.bool true) := by rw [← hw1]; exact h3
  have gB : w1.heap[B]? = some (.cells #[V [8], V [0], .int .i64 4, .bool true, V [9]] 29 (0, 0)) := by rw [← hw1]; exact HB.out
  have g1 : w1.cell? ⟨B, 1, none⟩ = some (V [0]) := by rw [cell_of_row _ _ _ _ _ _ gB]; rfl
  have R1 : Hid (Rws w1 own lo V C X) := hide (RR.out.below hb1)
  have HB1 := hide hb1
  have HGB := hide gB
  rw [hV] at g1
  have gv : w1.cell? ⟨g, n * 2 + 1, none⟩ = some (.slice (some ⟨g1', 0, none⟩) (m + 1) k1) := by rw [← hw1]; exact hv1
  have gv2 : w1.cell? ⟨g1', m, none⟩ = some (.slice (some ⟨g2, 0, none⟩) (p + 1) k2) := by rw [← hw1]; exact hv2
  have HW := hide (warp_some w1 B g n k0 g1' m k1 g2 p k2 hn hm hpp g1 gv gv2)
  have g2' : w1.cell? ⟨B, 2, none⟩ = some (.int .i64 4) := by rw [cell_of_row _ _ _ _ _ _ gB]; rfl
  have hF1 : F.answers w1.tape := by rw [← hw1]; exact hF
  have hk9 : ((⟨#[114]⟩ : ByteArray).toList == [99]) = false := by rw [ByteArray.toList_eq]; rfl
  clear hw1 hb1 h3 hk gB hv1 hv2 gv gv2
  go_wp2_with (first | (go_at_call 8; refine HW.out.mono ?_; rintro e w2 ⟨rfl, j, hj⟩; have HB2 : Hid (Below w1.heap.size w1 w2) := hide (by rw [hj]; exact below_drewN (Below.refl _ _) _); have hF2 : F.answers w2.tape := (by rw [hj]; exact hF1); have g4 : w2.cell? ⟨B, 2, none⟩ = some (.int .i64 4) := (by rw [hj]; exact g2'); clear hj) | fail)
  refine (inst_five F _ (some ⟨b, 1, none⟩) (c - 1) w2 hF2 hk9).mono ?_
  rintro e w3 ⟨⟨v, a, rfl, rfl⟩, hb3⟩
  have HB3 := hide hb3
  clear hb3
  go_wp2_with fail
  go_ret
  exact ⟨⟨_, rfl⟩, HB1.out.trans ((HB2.out.trans ((HB3.out.mono HB2.out.size).trans (((Below.refl _ _).alloc (by have := HB3.out.size; have := HB2.out.size; omega) _)))).mono HB1.out.size)⟩

set_option maxHeartbeats 4000000 in
set_option maxRecDepth 100000 in
theorem parse_w5 (F : Interp) (w : World) (own : Nat → List Nat) (lo B b c : Nat) (V : List Nat → Value) (C : List Nat → Nat) (X : List Nat → List Value) (line : Int) (R : Rws w own lo V C X) (hB : PBx w B V) (hBl : B < lo) (hlo : lo ≤ w.heap.size) (hc : 2 ≤ c) (g n k0 g1' m k1 g2 p k2 : Nat) (a3 : Option Addr) (k3 : Nat) (hn : n ≤ 2000) (hm : m ≤ 2000) (hpp : p ≤ 2000) (hV : V [0] = .slice (some ⟨g, 0, none⟩) (n + 1) k0) (hV1 : V [1, n] = .slice (some ⟨g1', 0, none⟩) (m + 1) k1) (hV2 : V [2, n, m] = .slice (some ⟨g2, 0, none⟩) (p + 1) k2)
    (hX : (X [0])[n * 2 + 1]? = some (V [1, n])) (hX1 : (X [1, n])[m]? = some (V [2, n, m])) (hc6 : 6 ≤ c) (hF : F.answers w.tape)
    (hk : w.cell? ⟨b, 0, none⟩ = some (.string ⟨#[119]⟩)) :
    Calls Ybaf.prog 5 #[.pointer (some ⟨B, 0, none⟩), .slice (some ⟨b, 0, none⟩) (6) c, .int .i64 line] w fun e w' => (∃ a, e = .returned (.iface 75 (.pointer (some a)))) ∧ Below w.heap.size w w' := by
  obtain ⟨hgs, hv1⟩ : g < w.heap.size ∧ w.cell? ⟨g, n * 2 + 1, none⟩ = some (.slice (some ⟨g1', 0, none⟩) (m + 1) k1) := by
    have := R.cellAt hV hX
    rw [hV1] at this
    exact this
  obtain ⟨hgs1, hv2⟩ : g1' < w.heap.size ∧ w.cell? ⟨g1', m, none⟩ = some (.slice (some ⟨g2, 0, none⟩) (p + 1) k2) := by
    have := R.cellAt hV1 hX1
    rw [hV2] at this
    exact this
  have hc1 : ¬ c = 1 := by omega
  have hp2 : (1 : Int) ≤ (c : Int) := by omega
  have h3 : w.cell? ⟨B, 3, none⟩ = some (.bool true) := by rw [cell_of_row _ _ _ _ _ _ hB]; rfl
  have RR := hide R
  have HB := hide hB
  clear R hB
  go_enter Ybaf.func5, Ybaf.ntmps5
  go_wp2_with fail
  go_quiet (fail)
  generalize hw1 : w.drewN nq = w1
  have hb1 : Below w.heap.size w w1 := by rw [← hw1]; exact below_drewN (Below.refl _ _) _
  have hs1 : w1.heap.size = w.heap.size := by rw [← hw1]; rfl
  have g3 : w1.cell? ⟨B, 3, none⟩ = some (.bool true) := by rw [← hw1]; exact h3
  have gB : w1.heap[B]? = some (.cells #[V [8], V [0], .int .i64 4, .bool true, V [9]] 29 (0, 0)) := by rw [← hw1]; exact HB.out
  have g1 : w1.cell? ⟨B, 1, none⟩ = some (V [0]) := by rw [cell_of_row _ _ _ _ _ _ gB]; rfl
  have R1 : Hid (Rws w1 own lo V C X) := hide (RR.out.below hb1)
  have HB1 := hide hb1
  have HGB := hide gB
  rw [hV] at g1
  have gv : w1.cell? ⟨g, n * 2 + 1, none⟩ = some (.slice (some ⟨g1', 0, none⟩) (m + 1) k1) := by rw [← hw1]; exact hv1
  have gv2 : w1.cell? ⟨g1', m, none⟩ = some (.slice (some ⟨g2, 0, none⟩) (p + 1) k2) := by rw [← hw1]; exact hv2
  have HW := hide (warp_some w1 B g n k0 g1' m k1 g2 p k2 hn hm hpp g1 gv gv2)
  have g2' : w1.cell? ⟨B, 2, none⟩ = some (.int .i64 4) := by rw [cell_of_row _ _ _ _ _ _ gB]; rfl
  have hF1 : F.answers w1.tape := by rw [← hw1]; exact hF
  have hk9 : ((⟨#[119]⟩ : ByteArray).toList == [99]) = false := by rw [ByteArray.toList_eq]; rfl
  clear hw1 hb1 h3 hk gB hv1 hv2 gv gv2
  go_wp2_with (first | (go_at_call 8; refine HW.out.mono ?_; rintro e w2 ⟨rfl, j, hj⟩; have HB2 : Hid (Below w1.heap.size w1 w2) := hide (by rw [hj]; exact below_drewN (Below.refl _ _) _); have hF2 : F.answers w2.tape := (by rw [hj]; exact hF1); have g4 : w2.cell? ⟨B, 2, none⟩ = some (.int .i64 4) := (by rw [hj]; exact g2'); clear hj) | fail)
  refine (inst_five F _ (some ⟨b, 1, none⟩) (c - 1) w2 hF2 hk9).mono ?_
  rintro e w3 ⟨⟨v, a, rfl, rfl⟩, hb3⟩
  have HB3 := hide hb3
  clear hb3
  go_wp2_with fail
  go_ret
  exact ⟨⟨_, rfl⟩, HB1.out.trans ((HB2.out.trans ((HB3.out.mono HB2.out.size).trans (((Below.refl _ _).alloc (by have := HB3.out.size; have := HB2.out.size; omega) _)))).mono HB1.out.size)⟩

theorem Rws.ownLt {w : World} {own : Nat → List Nat} {lo : Nat} {V : List Nat → Value} {C : List Nat → Nat} {X : List Nat → List Value} (h : Rws w own lo V C X) {t : List Nat} {g : Nat} (hg : (V t).ownBlock = some g) : g < w.heap.size := by
  rcases (h t).1.2 with ⟨h0, _⟩ | ⟨g', cap, cur, h1, h2, h3, _⟩
  · rw [h0] at hg; simp [Value.ownBlock] at hg
  · rw [h1] at hg; simp [Value.ownBlock] at hg; subst hg; exact lt_of_block h3

set_option maxHeartbeats 4000000 in
set_option maxRecDepth 100000 in
theorem parse_c (w : World) (own : Nat → List Nat) (lo B b c : Nat) (V : List Nat → Value) (C : List Nat → Nat) (X : List Nat → List Value) (line : Int) (R : Rws w own lo V C X) (hB : PBx w B V) (hBl : B < lo) (hlo : lo ≤ w.heap.size) (hc : 2 ≤ c) (g n k0 g1' m k1 g2 p k2 : Nat) (a3 : Option Addr) (k3 : Nat) (hn : n ≤ 2000) (hm : m ≤ 2000) (hpp : p ≤ 2000) (hV : V [0] = .slice (some ⟨g, 0, none⟩) (n + 1) k0) (hV1 : V [1, n] = .slice (some ⟨g1', 0, none⟩) (m + 1) k1) (hV2 : V [2, n, m] = .slice (some ⟨g2, 0, none⟩) (p + 1) k2)
    (hX : (X [0])[n * 2 + 1]? = some (V [1, n])) (hX1 : (X [1, n])[m]? = some (V [2, n, m])) (hV3 : V [3, n, m, p] = .slice a3 (C [3, n, m, p]) k3) (hX2 : (X [2, n, m])[p]? = some (V [3, n, m, p])) (hC3 : C [3, n, m, p] ≤ 1500) (Uc : Nat) (l : List UInt8) (hU : Uc ≤ 9223372036854775807) (hN : Num 10 Uc l) (ha : w.cell? ⟨b, 1, none⟩ = some (.string ⟨l.toArray⟩)) (hcc : 2 ≤ c)
    (hk : w.cell? ⟨b, 0, none⟩ = some (.string ⟨#[99]⟩)) :
    Calls Ybaf.prog 5 #[.pointer (some ⟨B, 0, none⟩), .slice (some ⟨b, 0, none⟩) (2) c, .int .i64 line] w fun e w' => e = .returned .nilIface ∧ Kp B lo w w' ∧ ∃ own' v', Rws w' own' lo (upd V [3, n, m, p] v') (upd C [3, n, m, p] (C [3, n, m, p] + 1)) (upd (upd X [3, n, m, p] (X [3, n, m, p] ++ [.int .u8 3, .slice none 0 0, .int .i64 (Uc : Int)])) [2, n, m] ((X [2, n, m]).set p v')) ∧ PBx w' B V := by
  obtain ⟨i53, hi, hz0, hz1, hz2⟩ := info_parts info53
  obtain ⟨hgs, hv1⟩ : g < w.heap.size ∧ w.cell? ⟨g, n * 2 + 1, none⟩ = some (.slice (some ⟨g1', 0, none⟩) (m + 1) k1) := by
    have := R.cellAt hV hX
    rw [hV1] at this
    exact this
  obtain ⟨hgs1, hv2⟩ : g1' < w.heap.size ∧ w.cell? ⟨g1', m, none⟩ = some (.slice (some ⟨g2, 0, none⟩) (p + 1) k2) := by
    have := R.cellAt hV1 hX1
    rw [hV2] at this
    exact this
  obtain ⟨hgs2, hv3⟩ : g2 < w.heap.size ∧ w.cell? ⟨g2, p, none⟩ = some (V [3, n, m, p]) := R.cellAt hV2 hX2
  have hgl2 := R.rowLo hV2
  have hc1 : ¬ c = 1 := by omega
  have hp2 : (1 : Int) ≤ (c : Int) := by omega
  have h3 : w.cell? ⟨B, 3, none⟩ = some (.bool true) := by rw [cell_of_row _ _ _ _ _ _ hB]; rfl
  have RR := hide R
  have HB := hide hB
  clear R hB
  go_enter Ybaf.func5, Ybaf.ntmps5
  go_wp2_with fail
  go_quiet (fail)
  generalize hw1 : w.drewN nq = w1
  have hb1 : Below w.heap.size w w1 := by rw [← hw1]; exact below_drewN (Below.refl _ _) _
  have hs1 : w1.heap.size = w.heap.size := by rw [← hw1]; rfl
  have g3 : w1.cell? ⟨B, 3, none⟩ = some (.bool true) := by rw [← hw1]; exact h3
  have gB : w1.heap[B]? = some (.cells #[V [8], V [0], .int .i64 4, .bool true, V [9]] 29 (0, 0)) := by rw [← hw1]; exact HB.out
  have g1 : w1.cell? ⟨B, 1, none⟩ = some (V [0]) := by rw [cell_of_row _ _ _ _ _ _ gB]; rfl
  have R1 : Hid (Rws w1 own lo V C X) := hide (RR.out.below hb1)
  have HB1 := hide hb1
  have HGB := hide gB
  rw [hV] at g1
  have gv : w1.cell? ⟨g, n * 2 + 1, none⟩ = some (.slice (some ⟨g1', 0, none⟩) (m + 1) k1) := by rw [← hw1]; exact hv1
  have gv2 : w1.cell? ⟨g1', m, none⟩ = some (.slice (some ⟨g2, 0, none⟩) (p + 1) k2) := by rw [← hw1]; exact hv2
  have HW := hide (warp_some w1 B g n k0 g1' m k1 g2 p k2 hn hm hpp g1 gv gv2)
  have g2' : w1.cell? ⟨B, 2, none⟩ = some (.int .i64 4) := by rw [cell_of_row _ _ _ _ _ _ gB]; rfl
  have gv3 : w1.cell? ⟨g2, p, none⟩ = some (V [3, n, m, p]) := by rw [← hw1]; exact hv3
  have ga : Hid (w1.cell? ⟨b, 1, none⟩ = some (.string ⟨l.toArray⟩)) := hide (by rw [← hw1]; exact ha)
  have HV2 := hide hV2
  have HV3 := hide hV3
  have HX2 := hide hX2
  have GV3 := hide gv3
  clear hw1 hb1 h3 hk gB hv1 hv2 gv gv2 hv3 gv3 hV hV1 hV2 hV3 hX hX1 hX2
  go_wp2_with (first | (go_at_call 8; refine HW.out.mono ?_; rintro e w2 ⟨rfl, j, hj⟩; have HB2 : Hid (Below w1.heap.size w1 w2) := hide (by rw [hj]; exact below_drewN (Below.refl _ _) _); have g4 : w2.cell? ⟨B, 2, none⟩ = some (.int .i64 4) := (by rw [hj]; exact g2'); have GA2 : Hid (w2.cell? ⟨b, 1, none⟩ = some (.string ⟨l.toArray⟩)) := hide (by rw [hj]; exact ga.out); clear hj) | fail)
  refine (inst_c b 1 (c - 1) 4 Uc l w2 hU hN GA2.out).mono ?_
  rintro e w3 ⟨rfl, hb3⟩
  have hs2 := HB2.out.size
  have hs3 := hb3.size
  have HB3 := hide hb3
  clear hb3
  go_wp2_with fail
  generalize hw5 : w3.alloc _ = w5
  have hb5 : Below w3.heap.size w3 w5 := by rw [← hw5]; exact (Below.refl _ _).alloc (Nat.le_refl _) _
  have hs5 : w5.heap.size = w3.heap.size + 1 := by rw [← hw5]; simp
  have hy5 : w5.heap[w3.heap.size]? = some (.cells #[.int .u8 3, .slice none 0 0, .int .i64 (Uc : Int)] 53 (0, 0)) := by rw [← hw5]; exact heap_alloc_new w3 _
  have hb15 : Below w1.heap.size w1 w5 := HB2.out.trans ((HB3.out.trans (hb5.mono hs3)).mono hs2)
  have HB15 := hide hb15
  have HB5 := hide hb5
  have R5 : Hid (Rws (w5.alloc (.cells #[.int .u8 3, .slice none 0 0, .int .i64 (Uc : Int)] 53)).drew own lo V C X) := hide ((R1.out.below hb15).below ((Below.refl _ _).alloc (Nat.le_refl _) _).drew)
  have d0 : w5.drew.cell? ⟨w3.heap.size, 0, none⟩ = some (.int .u8 3) := by rw [show w5.drew.cell? ⟨w3.heap.size, 0, none⟩ = w5.cell? ⟨w3.heap.size, 0, none⟩ from rfl, cell_of_row _ _ _ _ _ _ hy5]; rfl
  obtain ⟨u1, hu1⟩ : ∃ u1 : Value, u1 = #[.int .u8 3, .slice none 0 0, .int .i64 (Uc : Int)][1]! := ⟨_, rfl⟩
  have d1 : w5.drew.cell? ⟨w3.heap.size, 1, none⟩ = #[.int .u8 3, .slice none 0 0, .int .i64 (Uc : Int)][1]? := by rw [show w5.drew.cell? ⟨w3.heap.size, 1, none⟩ = w5.cell? ⟨w3.heap.size, 1, none⟩ from rfl, cell_of_row _ _ _ _ _ _ hy5]
  have d2 : w5.drew.cell? ⟨w3.heap.size, 2, none⟩ = #[.int .u8 3, .slice none 0 0, .int .i64 (Uc : Int)][2]? := by rw [show w5.drew.cell? ⟨w3.heap.size, 2, none⟩ = w5.cell? ⟨w3.heap.size, 2, none⟩ from rfl, cell_of_row _ _ _ _ _ _ hy5]
  simp only [List.getElem?_toArray, List.getElem?_cons_succ, List.getElem?_cons_zero] at d1 d2
  clear hu1 u1
  have e3 : w5.drew.cell? ⟨g2, p, none⟩ = some (V [3, n, m, p]) := (HB15.out.cell (show g2 < w1.heap.size by omega)).trans GV3.out
  have e3' : (w5.alloc (.cells #[.int .u8 3, .slice none 0 0, .int .i64 (Uc : Int)] 53)).cell? ⟨g2, p, none⟩ = some (V [3, n, m, p]) := (World.cell?_of_block (w := w5) (Below.heap_alloc _ _ _ (by show g2 < w5.heap.size; omega))).trans e3
  have HNW : Hid (∀ j u, [.int .u8 3, .slice none 0 0, .int .i64 (Uc : Int)][j]? = some u → (w5.alloc (.cells #[.int .u8 3, .slice none 0 0, .int .i64 (Uc : Int)] 53)).drew.cell? ((⟨w5.heap.size, 0, none⟩ : Addr).add j) = some u) := hide (cell_three_new w5 _ _ _ 53)
  have hlw : lo ≤ w5.heap.size := by omega
  clear hw5 hb5 hy5 hb15
  go_region_law (refine step_append_rws' rfl (.tmp 203) (.tmp 205) 47 rfl [3, n, m, p] i53 _ 40 Ybaf.underlying47 hi hz0 hz1 hz2 rfl (by show 0 < 3; omega) (by simp [Act.eval]) R5.out ⟨w5.heap.size, 0, none⟩ 1 [.int .u8 3, .slice none 0 0, .int .i64 (Uc : Int)] (by simp [Act.eval]) rfl HNW.out (by intro u hu; simp at hu; rcases hu with rfl | rfl | rfl <;> rfl) (by omega) (by omega) (by simp; omega) ?_; intro v' w6 own' R6 hb6 hs6 hq6 hv6; obtain ⟨gv', cap4, rfl⟩ := hv6; have hV' : upd V [3, n, m, p] (.slice (some ⟨gv', 0, none⟩) (C [3, n, m, p] + 1) cap4) [2, n, m] = .slice (some ⟨g2, 0, none⟩) (p + 1) k2 := (by rw [upd_other _ _ (by simp)]; exact HV2.out); have hx0 : upd X [3, n, m, p] (X [3, n, m, p] ++ [.int .u8 3, .slice none 0 0, .int .i64 (Uc : Int)]) [2, n, m] = X [2, n, m] := upd_other _ _ (by simp); have s1 := (R6.cellAt hV' (by rw [hx0]; exact HX2.out)).2; have s2 := R6.frozenAt hV' p; have HR6 := hide R6; have HB6 := hide hb6; have HQ6 := hide hq6; have HV' := hide hV'; have HX0 := hide hx0; clear R6 hb6 hq6 hV' hx0)
  all_goals (
    have hq6 := HQ6.out
    have hb6 := HB6.out
    have R7 := HR6.out.set [2, n, m] g2 k2 (p + 1) p (.slice (some ⟨gv', 0, none⟩) (C [3, n, m, p] + 1) cap4) HV'.out
    rw [HX0.out] at R7
    have hB3 : w6.heap[B]? = some (.cells #[V [8], V [0], .int .i64 4, .bool true, V [9]] 29 (0, 0)) := by
      rw [hb6.block B hBl]
      show (w5.alloc _).heap[B]? = _
      rw [Below.heap_alloc _ _ _ (by omega), HB15.out.block B (by omega)]
      exact HGB.out
    have hB4 : PBx (w6.setCell ⟨g2, p, none⟩ (.slice (some ⟨gv', 0, none⟩) (C [3, n, m, p] + 1) cap4)) B V := (heap_setCell_other _ _ _ _ (by simp; omega)).trans hB3
    have hK : Kp B lo w (w6.setCell ⟨g2, p, none⟩ (.slice (some ⟨gv', 0, none⟩) (C [3, n, m, p] + 1) cap4)) :=
      (((Kp.of_below (HB1.out.mono hlo) (by omega)).trans (Kp.of_below (HB15.out.mono (by omega)) (by omega))).trans (Kp.of_below ((((Below.refl lo w5).alloc (by omega) _).drew).trans hb6) (by have := hs6; simp at this; omega))).trans (Kp.of_row _ _ _ _ hgl2)
    have HF := hide (And.intro hK (And.intro R7 hB4))
    clear R7 hB4 hK hB3 hb6 hq6 d0 d1 d2 e3 e3' s1 s2 g4 g2' g3 g1
    go_wp2_with fail
    go_ret
    exact ⟨rfl, HF.out.1, own', _, HF.out.2.1, HF.out.2.2⟩)

set_option maxHeartbeats 4000000 in
set_option maxRecDepth 100000 in
theorem parse_r (w : World) (own : Nat → List Nat) (lo B b c : Nat) (V : List Nat → Value) (C : List Nat → Nat) (X : List Nat → List Value) (line : Int) (R : Rws w own lo V C X) (hB : PBx w B V) (hBl : B < lo) (hlo : lo ≤ w.heap.size) (hc : 2 ≤ c) (g n k0 g1' m k1 g2 p k2 : Nat) (a3 : Option Addr) (k3 : Nat) (hn : n ≤ 2000) (hm : m ≤ 2000) (hpp : p ≤ 2000) (hV : V [0] = .slice (some ⟨g, 0, none⟩) (n + 1) k0) (hV1 : V [1, n] = .slice (some ⟨g1', 0, none⟩) (m + 1) k1) (hV2 : V [2, n, m] = .slice (some ⟨g2, 0, none⟩) (p + 1) k2)
    (hX : (X [0])[n * 2 + 1]? = some (V [1, n])) (hX1 : (X [1, n])[m]? = some (V [2, n, m])) (hV3 : V [3, n, m, p] = .slice a3 (C [3, n, m, p]) k3) (hX2 : (X [2, n, m])[p]? = some (V [3, n, m, p])) (hC3 : C [3, n, m, p] ≤ 1500) (q : Nat) (A : Nat → Nat) (L : Nat → List UInt8) (hq1 : 1 ≤ q) (hq4 : q ≤ 4) (hcc : q + 1 ≤ c) (hA : ∀ j, j < q → A j ≤ 18446744073709551615 ∧ Num 16 (A j) (L j) ∧ w.cell? ⟨b, 1 + j, none⟩ = some (.string ⟨(48 :: 120 :: L j).toArray⟩))
    (hk : w.cell? ⟨b, 0, none⟩ = some (.string ⟨#[114]⟩)) :
    Calls Ybaf.prog 5 #[.pointer (some ⟨B, 0, none⟩), .slice (some ⟨b, 0, none⟩) (q + 1) c, .int .i64 line] w fun e w' => e = .returned .nilIface ∧ Kp B lo w w' ∧ ∃ own' v' x, Rws w' own' lo (upd V [3, n, m, p] v') (upd C [3, n, m, p] (C [3, n, m, p] + 1)) (upd (upd X [3, n, m, p] (X [3, n, m, p] ++ [.int .u8 1, .slice (some ⟨x, 0, none⟩) q q, .int .i64 0])) [2, n, m] ((X [2, n, m]).set p v')) ∧ PBx w' B V ∧ ∀ j, j < q → w'.cell? ⟨x, j, none⟩ = some (.int .u64 (A j)) := by
  obtain ⟨i53, hi, hz0, hz1, hz2⟩ := info_parts info53
  have hq2 : (1 : Int) ≤ (q : Int) + 1 := by omega
  have hq3 : (0 : Int) < (q : Int) + 1 := by omega
  obtain ⟨hgs, hv1⟩ : g < w.heap.size ∧ w.cell? ⟨g, n * 2 + 1, none⟩ = some (.slice (some ⟨g1', 0, none⟩) (m + 1) k1) := by
    have := R.cellAt hV hX
    rw [hV1] at this
    exact this
  obtain ⟨hgs1, hv2⟩ : g1' < w.heap.size ∧ w.cell? ⟨g1', m, none⟩ = some (.slice (some ⟨g2, 0, none⟩) (p + 1) k2) := by
    have := R.cellAt hV1 hX1
    rw [hV2] at this
    exact this
  obtain ⟨hgs2, hv3⟩ : g2 < w.heap.size ∧ w.cell? ⟨g2, p, none⟩ = some (V [3, n, m, p]) := R.cellAt hV2 hX2
  have hgl2 := R.rowLo hV2
  have hc1 : ¬ c = 1 := by omega
  have hp2 : (1 : Int) ≤ (c : Int) := by omega
  have h3 : w.cell? ⟨B, 3, none⟩ = some (.bool true) := by rw [cell_of_row _ _ _ _ _ _ hB]; rfl
  have RR := hide R
  have HB := hide hB
  clear R hB
  go_enter Ybaf.func5, Ybaf.ntmps5
  go_wp2_with fail
  go_quiet (fail)
  generalize hw1 : w.drewN nq = w1
  have hb1 : Below w.heap.size w w1 := by rw [← hw1]; exact below_drewN (Below.refl _ _) _
  have hs1 : w1.heap.size = w.heap.size := by rw [← hw1]; rfl
  have g3 : w1.cell? ⟨B, 3, none⟩ = some (.bool true) := by rw [← hw1]; exact h3
  have gB : w1.heap[B]? = some (.cells #[V [8], V [0], .int .i64 4, .bool true, V [9]] 29 (0, 0)) := by rw [← hw1]; exact HB.out
  have g1 : w1.cell? ⟨B, 1, none⟩ = some (V [0]) := by rw [cell_of_row _ _ _ _ _ _ gB]; rfl
  have R1 : Hid (Rws w1 own lo V C X) := hide (RR.out.below hb1)
  have HB1 := hide hb1
  have HGB := hide gB
  rw [hV] at g1
  have gv : w1.cell? ⟨g, n * 2 + 1, none⟩ = some (.slice (some ⟨g1', 0, none⟩) (m + 1) k1) := by rw [← hw1]; exact hv1
  have gv2 : w1.cell? ⟨g1', m, none⟩ = some (.slice (some ⟨g2, 0, none⟩) (p + 1) k2) := by rw [← hw1]; exact hv2
  have HW := hide (warp_some w1 B g n k0 g1' m k1 g2 p k2 hn hm hpp g1 gv gv2)
  have g2' : w1.cell? ⟨B, 2, none⟩ = some (.int .i64 4) := by rw [cell_of_row _ _ _ _ _ _ gB]; rfl
  have gv3 : w1.cell? ⟨g2, p, none⟩ = some (V [3, n, m, p]) := by rw [← hw1]; exact hv3
  have HA1 : Hid (∀ j, j < q → A j ≤ 18446744073709551615 ∧ Num 16 (A j) (L j) ∧ w1.cell? ⟨b, 1 + j, none⟩ = some (.string ⟨(48 :: 120 :: L j).toArray⟩)) := hide (by rw [← hw1]; exact hA)
  have hk9 : ((⟨#[114]⟩ : ByteArray).toList == [99]) = false := by rw [ByteArray.toList_eq]; rfl
  have hop : opOf ⟨#[114]⟩ = 1 := by rw [opOf, ByteArray.toList_eq]; rfl
  have HV2 := hide hV2
  have HV3 := hide hV3
  have HX2 := hide hX2
  have GV3 := hide gv3
  clear hw1 hb1 h3 hk gB hv1 hv2 gv gv2 hv3 gv3 hV hV1 hV2 hV3 hX hX1 hX2
  go_wp2_with (first | (go_at_call 8; refine HW.out.mono ?_; rintro e w2 ⟨rfl, j, hj⟩; have HB2 : Hid (Below w1.heap.size w1 w2) := hide (by rw [hj]; exact below_drewN (Below.refl _ _) _); have g4 : w2.cell? ⟨B, 2, none⟩ = some (.int .i64 4) := (by rw [hj]; exact g2'); have GA2 : Hid (∀ j, j < q → A j ≤ 18446744073709551615 ∧ Num 16 (A j) (L j) ∧ w2.cell? ⟨b, 1 + j, none⟩ = some (.string ⟨(48 :: 120 :: L j).toArray⟩)) := hide (by rw [hj]; exact HA1.out); clear hj) | fail)
  refine (inst_rw ⟨#[114]⟩ b 1 (c - 1) q A L w2 hk9 hq1 hq4 GA2.out).mono ?_
  rw [hop]
  rintro e w3 ⟨rfl, hb3, hcl⟩
  have hs2 := HB2.out.size
  have hs3 := hb3.size
  have HCL := hide hcl
  have hwx : w2.heap.size + 1 < w3.heap.size := World.block_lt_of_cell? _ _ (hcl 0 (by omega))
  clear hcl
  have HB3 := hide hb3
  clear hb3
  go_wp2_with fail
  generalize hw5 : w3.alloc _ = w5
  have hb5 : Below w3.heap.size w3 w5 := by rw [← hw5]; exact (Below.refl _ _).alloc (Nat.le_refl _) _
  have hs5 : w5.heap.size = w3.heap.size + 1 := by rw [← hw5]; simp
  have hy5 : w5.heap[w3.heap.size]? = some (.cells #[.int .u8 1, .slice (some ⟨w2.heap.size + 1, 0, none⟩) q q, .int .i64 0] 53 (0, 0)) := by rw [← hw5]; exact heap_alloc_new w3 _
  have hb15 : Below w1.heap.size w1 w5 := HB2.out.trans ((HB3.out.trans (hb5.mono hs3)).mono hs2)
  have HB15 := hide hb15
  have HB5 := hide hb5
  have R5 : Hid (Rws (w5.alloc (.cells #[.int .u8 1, .slice (some ⟨w2.heap.size + 1, 0, none⟩) q q, .int .i64 0] 53)).drew own lo V C X) := hide ((R1.out.below hb15).below ((Below.refl _ _).alloc (Nat.le_refl _) _).drew)
  have d0 : w5.drew.cell? ⟨w3.heap.size, 0, none⟩ = some (.int .u8 1) := by rw [show w5.drew.cell? ⟨w3.heap.size, 0, none⟩ = w5.cell? ⟨w3.heap.size, 0, none⟩ from rfl, cell_of_row _ _ _ _ _ _ hy5]; rfl
  obtain ⟨u1, hu1⟩ : ∃ u1 : Value, u1 = #[.int .u8 1, .slice (some ⟨w2.heap.size + 1, 0, none⟩) q q, .int .i64 0][1]! := ⟨_, rfl⟩
  have d1 : w5.drew.cell? ⟨w3.heap.size, 1, none⟩ = #[.int .u8 1, .slice (some ⟨w2.heap.size + 1, 0, none⟩) q q, .int .i64 0][1]? := by rw [show w5.drew.cell? ⟨w3.heap.size, 1, none⟩ = w5.cell? ⟨w3.heap.size, 1, none⟩ from rfl, cell_of_row _ _ _ _ _ _ hy5]
  have d2 : w5.drew.cell? ⟨w3.heap.size, 2, none⟩ = #[.int .u8 1, .slice (some ⟨w2.heap.size + 1, 0, none⟩) q q, .int .i64 0][2]? := by rw [show w5.drew.cell? ⟨w3.heap.size, 2, none⟩ = w5.cell? ⟨w3.heap.size, 2, none⟩ from rfl, cell_of_row _ _ _ _ _ _ hy5]
  simp only [List.getElem?_toArray, List.getElem?_cons_succ, List.getElem?_cons_zero] at d1 d2
  clear hu1 u1
  have e3 : w5.drew.cell? ⟨g2, p, none⟩ = some (V [3, n, m, p]) := (HB15.out.cell (show g2 < w1.heap.size by omega)).trans GV3.out
  have e3' : (w5.alloc (.cells #[.int .u8 1, .slice (some ⟨w2.heap.size + 1, 0, none⟩) q q, .int .i64 0] 53)).cell? ⟨g2, p, none⟩ = some (V [3, n, m, p]) := (World.cell?_of_block (w := w5) (Below.heap_alloc _ _ _ (by show g2 < w5.heap.size; omega))).trans e3
  have HNW : Hid (∀ j u, [.int .u8 1, .slice (some ⟨w2.heap.size + 1, 0, none⟩) q q, .int .i64 0][j]? = some u → (w5.alloc (.cells #[.int .u8 1, .slice (some ⟨w2.heap.size + 1, 0, none⟩) q q, .int .i64 0] 53)).drew.cell? ((⟨w5.heap.size, 0, none⟩ : Addr).add j) = some u) := hide (cell_three_new w5 _ _ _ 53)
  have hlw : lo ≤ w5.heap.size := by omega
  clear hw5 hb5 hy5 hb15
  go_region_law (refine step_append_rws' rfl (.tmp 203) (.tmp 205) 47 rfl [3, n, m, p] i53 _ 40 Ybaf.underlying47 hi hz0 hz1 hz2 rfl (by show 0 < 3; omega) (by simp [Act.eval]) R5.out ⟨w5.heap.size, 0, none⟩ 1 [.int .u8 1, .slice (some ⟨w2.heap.size + 1, 0, none⟩) q q, .int .i64 0] (by simp [Act.eval]) rfl HNW.out (by intro u hu; simp at hu; rcases hu with rfl | rfl | rfl <;> rfl) (by omega) (by omega) (by simp; omega) ?_; intro v' w6 own' R6 hb6 hs6 hq6 hv6; obtain ⟨gv', cap4, rfl⟩ := hv6; have hV' : upd V [3, n, m, p] (.slice (some ⟨gv', 0, none⟩) (C [3, n, m, p] + 1) cap4) [2, n, m] = .slice (some ⟨g2, 0, none⟩) (p + 1) k2 := (by rw [upd_other _ _ (by simp)]; exact HV2.out); have hx0 : upd X [3, n, m, p] (X [3, n, m, p] ++ [.int .u8 1, .slice (some ⟨w2.heap.size + 1, 0, none⟩) q q, .int .i64 0]) [2, n, m] = X [2, n, m] := upd_other _ _ (by simp); have s1 := (R6.cellAt hV' (by rw [hx0]; exact HX2.out)).2; have s2 := R6.frozenAt hV' p; have HR6 := hide R6; have HB6 := hide hb6; have HQ6 := hide hq6; have HV' := hide hV'; have HX0 := hide hx0; clear R6 hb6 hq6 hV' hx0)
  all_goals (
    have hq6 := HQ6.out
    have hb6 := HB6.out
    have R7 := HR6.out.set [2, n, m] g2 k2 (p + 1) p (.slice (some ⟨gv', 0, none⟩) (C [3, n, m, p] + 1) cap4) HV'.out
    rw [HX0.out] at R7
    have hB3 : w6.heap[B]? = some (.cells #[V [8], V [0], .int .i64 4, .bool true, V [9]] 29 (0, 0)) := by
      rw [hb6.block B hBl]
      show (w5.alloc _).heap[B]? = _
      rw [Below.heap_alloc _ _ _ (by omega), HB15.out.block B (by omega)]
      exact HGB.out
    have hB4 : PBx (w6.setCell ⟨g2, p, none⟩ (.slice (some ⟨gv', 0, none⟩) (C [3, n, m, p] + 1) cap4)) B V := (heap_setCell_other _ _ _ _ (by simp; omega)).trans hB3
    have hK : Kp B lo w (w6.setCell ⟨g2, p, none⟩ (.slice (some ⟨gv', 0, none⟩) (C [3, n, m, p] + 1) cap4)) :=
      (((Kp.of_below (HB1.out.mono hlo) (by omega)).trans (Kp.of_below (HB15.out.mono (by omega)) (by omega))).trans (Kp.of_below ((((Below.refl lo w5).alloc (by omega) _).drew).trans hb6) (by have := hs6; simp at this; omega))).trans (Kp.of_row _ _ _ _ hgl2)
    have hcx : ∀ j, j < q → (w6.setCell ⟨g2, p, none⟩ (.slice (some ⟨gv', 0, none⟩) (C [3, n, m, p] + 1) cap4)).cell? ⟨w2.heap.size + 1, j, none⟩ = some (.int .u64 (A j)) := by
      intro j hj
      have e0 : (w6.setCell ⟨g2, p, none⟩ (.slice (some ⟨gv', 0, none⟩) (C [3, n, m, p] + 1) cap4)).heap[w2.heap.size + 1]? = w3.heap[w2.heap.size + 1]? := by
        rw [heap_setCell_other _ _ _ _ (by simp; omega), hq6 (w2.heap.size + 1) (by simp; omega) (fun g' hg' => by have := R1.out.ownLt hg'; omega)]
        show (w5.alloc _).heap[_]? = _
        rw [Below.heap_alloc _ _ _ (by omega), HB5.out.block _ hwx]
      rw [World.cell?_of_block (w := w3) e0]
      exact HCL.out j hj
    have HF := hide (And.intro hK (And.intro R7 (And.intro hB4 hcx)))
    clear R7 hB4 hK hB3 hb6 hq6 hcx d0 d1 d2 e3 e3' s1 s2 g4 g2' g3 g1
    go_wp2_with fail
    go_ret
    exact ⟨rfl, HF.out.1, own', _, w2.heap.size + 1, HF.out.2.1, HF.out.2.2.1, HF.out.2.2.2⟩)

set_option maxHeartbeats 4000000 in
set_option maxRecDepth 100000 in
theorem parse_w (w : World) (own : Nat → List Nat) (lo B b c : Nat) (V : List Nat → Value) (C : List Nat → Nat) (X : List Nat → List Value) (line : Int) (R : Rws w own lo V C X) (hB : PBx w B V) (hBl : B < lo) (hlo : lo ≤ w.heap.size) (hc : 2 ≤ c) (g n k0 g1' m k1 g2 p k2 : Nat) (a3 : Option Addr) (k3 : Nat) (hn : n ≤ 2000) (hm : m ≤ 2000) (hpp : p ≤ 2000) (hV : V [0] = .slice (some ⟨g, 0, none⟩) (n + 1) k0) (hV1 : V [1, n] = .slice (some ⟨g1', 0, none⟩) (m + 1) k1) (hV2 : V [2, n, m] = .slice (some ⟨g2, 0, none⟩) (p + 1) k2)
    (hX : (X [0])[n * 2 + 1]? = some (V [1, n])) (hX1 : (X [1, n])[m]? = some (V [2, n, m])) (hV3 : V [3, n, m, p] = .slice a3 (C [3, n, m, p]) k3) (hX2 : (X [2, n, m])[p]? = some (V [3, n, m, p])) (hC3 : C [3, n, m, p] ≤ 1500) (q : Nat) (A : Nat → Nat) (L : Nat → List UInt8) (hq1 : 1 ≤ q) (hq4 : q ≤ 4) (hcc : q + 1 ≤ c) (hA : ∀ j, j < q → A j ≤ 18446744073709551615 ∧ Num 16 (A j) (L j) ∧ w.cell? ⟨b, 1 + j, none⟩ = some (.string ⟨(48 :: 120 :: L j).toArray⟩))
    (hk : w.cell? ⟨b, 0, none⟩ = some (.string ⟨#[119]⟩)) :
    Calls Ybaf.prog 5 #[.pointer (some ⟨B, 0, none⟩), .slice (some ⟨b, 0, none⟩) (q + 1) c, .int .i64 line] w fun e w' => e = .returned .nilIface ∧ Kp B lo w w' ∧ ∃ own' v' x, Rws w' own' lo (upd V [3, n, m, p] v') (upd C [3, n, m, p] (C [3, n, m, p] + 1)) (upd (upd X [3, n, m, p] (X [3, n, m, p] ++ [.int .u8 2, .slice (some ⟨x, 0, none⟩) q q, .int .i64 0])) [2, n, m] ((X [2, n, m]).set p v')) ∧ PBx w' B V ∧ ∀ j, j < q → w'.cell? ⟨x, j, none⟩ = some (.int .u64 (A j)) := by
  obtain ⟨i53, hi, hz0, hz1, hz2⟩ := info_parts info53
  have hq2 : (1 : Int) ≤ (q : Int) + 1 := by omega
  have hq3 : (0 : Int) < (q : Int) + 1 := by omega
  obtain ⟨hgs, hv1⟩ : g < w.heap.size ∧ w.cell? ⟨g, n * 2 + 1, none⟩ = some (.slice (some ⟨g1', 0, none⟩) (m + 1) k1) := by
    have := R.cellAt hV hX
    rw [hV1] at this
    exact this
  obtain ⟨hgs1, hv2⟩ : g1' < w.heap.size ∧ w.cell? ⟨g1', m, none⟩ = some (.slice (some ⟨g2, 0, none⟩) (p + 1) k2) := by
    have := R.cellAt hV1 hX1
    rw [hV2] at this
    exact this
  obtain ⟨hgs2, hv3⟩ : g2 < w.heap.size ∧ w.cell? ⟨g2, p, none⟩ = some (V [3, n, m, p]) := R.cellAt hV2 hX2
  have hgl2 := R.rowLo hV2
  have hc1 : ¬ c = 1 := by omega
  have hp2 : (1 : Int) ≤ (c : Int) := by omega
  have h3 : w.cell? ⟨B, 3, none⟩ = some (.bool true) := by rw [cell_of_row _ _ _ _ _ _ hB]; rfl
  have RR := hide R
  have HB := hide hB
  clear R hB
  go_enter Ybaf.func5, Ybaf.ntmps5
  go_wp2_with fail
  go_quiet (fail)
  generalize hw1 : w.drewN nq = w1
  have hb1 : Below w.heap.size w w1 := by rw [← hw1]; exact below_drewN (Below.refl _ _) _
  have hs1 : w1.heap.size = w.heap.size := by rw [← hw1]; rfl
  have g3 : w1.cell? ⟨B, 3, none⟩ = some (.bool true) := by rw [← hw1]; exact h3
  have gB : w1.heap[B]? = some (.cells #[V [8], V [0], .int .i64 4, .bool true, V [9]] 29 (0, 0)) := by rw [← hw1]; exact HB.out
  have g1 : w1.cell? ⟨B, 1, none⟩ = some (V [0]) := by rw [cell_of_row _ _ _ _ _ _ gB]; rfl
  have R1 : Hid (Rws w1 own lo V C X) := hide (RR.out.below hb1)
  have HB1 := hide hb1
  have HGB := hide gB
  rw [hV] at g1
  have gv : w1.cell? ⟨g, n * 2 + 1, none⟩ = some (.slice (some ⟨g1', 0, none⟩) (m + 1) k1) := by rw [← hw1]; exact hv1
  have gv2 : w1.cell? ⟨g1', m, none⟩ = some (.slice (some ⟨g2, 0, none⟩) (p + 1) k2) := by rw [← hw1]; exact hv2
  have HW := hide (warp_some w1 B g n k0 g1' m k1 g2 p k2 hn hm hpp g1 gv gv2)
  have g2' : w1.cell? ⟨B, 2, none⟩ = some (.int .i64 4) := by rw [cell_of_row _ _ _ _ _ _ gB]; rfl
  have gv3 : w1.cell? ⟨g2, p, none⟩ = some (V [3, n, m, p]) := by rw [← hw1]; exact hv3
  have HA1 : Hid (∀ j, j < q → A j ≤ 18446744073709551615 ∧ Num 16 (A j) (L j) ∧ w1.cell? ⟨b, 1 + j, none⟩ = some (.string ⟨(48 :: 120 :: L j).toArray⟩)) := hide (by rw [← hw1]; exact hA)
  have hk9 : ((⟨#[119]⟩ : ByteArray).toList == [99]) = false := by rw [ByteArray.toList_eq]; rfl
  have hop : opOf ⟨#[119]⟩ = 2 := by rw [opOf, ByteArray.toList_eq]; rfl
  have HV2 := hide hV2
  have HV3 := hide hV3
  have HX2 := hide hX2
  have GV3 := hide gv3
  clear hw1 hb1 h3 hk gB hv1 hv2 gv gv2 hv3 gv3 hV hV1 hV2 hV3 hX hX1 hX2
  go_wp2_with (first | (go_at_call 8; refine HW.out.mono ?_; rintro e w2 ⟨rfl, j, hj⟩; have HB2 : Hid (Below w1.heap.size w1 w2) := hide (by rw [hj]; exact below_drewN (Below.refl _ _) _); have g4 : w2.cell? ⟨B, 2, none⟩ = some (.int .i64 4) := (by rw [hj]; exact g2'); have GA2 : Hid (∀ j, j < q → A j ≤ 18446744073709551615 ∧ Num 16 (A j) (L j) ∧ w2.cell? ⟨b, 1 + j, none⟩ = some (.string ⟨(48 :: 120 :: L j).toArray⟩)) := hide (by rw [hj]; exact HA1.out); clear hj) | fail)
  refine (inst_rw ⟨#[119]⟩ b 1 (c - 1) q A L w2 hk9 hq1 hq4 GA2.out).mono ?_
  rw [hop]
  rintro e w3 ⟨rfl, hb3, hcl⟩
  have hs2 := HB2.out.size
  have hs3 := hb3.size
  have HCL := hide hcl
  have hwx : w2.heap.size + 1 < w3.heap.size := World.block_lt_of_cell? _ _ (hcl 0 (by omega))
  clear hcl
  have HB3 := hide hb3
  clear hb3
  go_wp2_with fail
  generalize hw5 : w3.alloc _ = w5
  have hb5 : Below w3.heap.size w3 w5 := by rw [← hw5]; exact (Below.refl _ _).alloc (Nat.le_refl _) _
  have hs5 : w5.heap.size = w3.heap.size + 1 := by rw [← hw5]; simp
  have hy5 : w5.heap[w3.heap.size]? = some (.cells #[.int .u8 2, .slice (some ⟨w2.heap.size + 1, 0, none⟩) q q, .int .i64 0] 53 (0, 0)) := by rw [← hw5]; exact heap_alloc_new w3 _
  have hb15 : Below w1.heap.size w1 w5 := HB2.out.trans ((HB3.out.trans (hb5.mono hs3)).mono hs2)
  have HB15 := hide hb15
  have HB5 := hide hb5
  have R5 : Hid (Rws (w5.alloc (.cells #[.int .u8 2, .slice (some ⟨w2.heap.size + 1, 0, none⟩) q q, .int .i64 0] 53)).drew own lo V C X) := hide ((R1.out.below hb15).below ((Below.refl _ _).alloc (Nat.le_refl _) _).drew)
  have d0 : w5.drew.cell? ⟨w3.heap.size, 0, none⟩ = some (.int .u8 2) := by rw [show w5.drew.cell? ⟨w3.heap.size, 0, none⟩ = w5.cell? ⟨w3.heap.size, 0, none⟩ from rfl, cell_of_row _ _ _ _ _ _ hy5]; rfl
  obtain ⟨u1, hu1⟩ : ∃ u1 : Value, u1 = #[.int .u8 2, .slice (some ⟨w2.heap.size + 1, 0, none⟩) q q, .int .i64 0][1]! := ⟨_, rfl⟩
  have d1 : w5.drew.cell? ⟨w3.heap.size, 1, none⟩ = #[.int .u8 2, .slice (some ⟨w2.heap.size + 1, 0, none⟩) q q, .int .i64 0][1]? := by rw [show w5.drew.cell? ⟨w3.heap.size, 1, none⟩ = w5.cell? ⟨w3.heap.size, 1, none⟩ from rfl, cell_of_row _ _ _ _ _ _ hy5]
  have d2 : w5.drew.cell? ⟨w3.heap.size, 2, none⟩ = #[.int .u8 2, .slice (some ⟨w2.heap.size + 1, 0, none⟩) q q, .int .i64 0][2]? := by rw [show w5.drew.cell? ⟨w3.heap.size, 2, none⟩ = w5.cell? ⟨w3.heap.size, 2, none⟩ from rfl, cell_of_row _ _ _ _ _ _ hy5]
  simp only [List.getElem?_toArray, List.getElem?_cons_succ, List.getElem?_cons_zero] at d1 d2
  clear hu1 u1
  have e3 : w5.drew.cell? ⟨g2, p, none⟩ = some (V [3, n, m, p]) := (HB15.out.cell (show g2 < w1.heap.size by omega)).trans GV3.out
  have e3' : (w5.alloc (.cells #[.int .u8 2, .slice (some ⟨w2.heap.size + 1, 0, none⟩) q q, .int .i64 0] 53)).cell? ⟨g2, p, none⟩ = some (V [3, n, m, p]) := (World.cell?_of_block (w := w5) (Below.heap_alloc _ _ _ (by show g2 < w5.heap.size; omega))).trans e3
  have HNW : Hid (∀ j u, [.int .u8 2, .slice (some ⟨w2.heap.size + 1, 0, none⟩) q q, .int .i64 0][j]? = some u → (w5.alloc (.cells #[.int .u8 2, .slice (some ⟨w2.heap.size + 1, 0, none⟩) q q, .int .i64 0] 53)).drew.cell? ((⟨w5.heap.size, 0, none⟩ : Addr).add j) = some u) := hide (cell_three_new w5 _ _ _ 53)
  have hlw : lo ≤ w5.heap.size := by omega
  clear hw5 hb5 hy5 hb15
  go_region_law (refine step_append_rws' rfl (.tmp 203) (.tmp 205) 47 rfl [3, n, m, p] i53 _ 40 Ybaf.underlying47 hi hz0 hz1 hz2 rfl (by show 0 < 3; omega) (by simp [Act.eval]) R5.out ⟨w5.heap.size, 0, none⟩ 1 [.int .u8 2, .slice (some ⟨w2.heap.size + 1, 0, none⟩) q q, .int .i64 0] (by simp [Act.eval]) rfl HNW.out (by intro u hu; simp at hu; rcases hu with rfl | rfl | rfl <;> rfl) (by omega) (by omega) (by simp; omega) ?_; intro v' w6 own' R6 hb6 hs6 hq6 hv6; obtain ⟨gv', cap4, rfl⟩ := hv6; have hV' : upd V [3, n, m, p] (.slice (some ⟨gv', 0, none⟩) (C [3, n, m, p] + 1) cap4) [2, n, m] = .slice (some ⟨g2, 0, none⟩) (p + 1) k2 := (by rw [upd_other _ _ (by simp)]; exact HV2.out); have hx0 : upd X [3, n, m, p] (X [3, n, m, p] ++ [.int .u8 2, .slice (some ⟨w2.heap.size + 1, 0, none⟩) q q, .int .i64 0]) [2, n, m] = X [2, n, m] := upd_other _ _ (by simp); have s1 := (R6.cellAt hV' (by rw [hx0]; exact HX2.out)).2; have s2 := R6.frozenAt hV' p; have HR6 := hide R6; have HB6 := hide hb6; have HQ6 := hide hq6; have HV' := hide hV'; have HX0 := hide hx0; clear R6 hb6 hq6 hV' hx0)
  all_goals (
    have hq6 := HQ6.out
    have hb6 := HB6.out
    have R7 := HR6.out.set [2, n, m] g2 k2 (p + 1) p (.slice (some ⟨gv', 0, none⟩) (C [3, n, m, p] + 1) cap4) HV'.out
    rw [HX0.out] at R7
    have hB3 : w6.heap[B]? = some (.cells #[V [8], V [0], .int .i64 4, .bool true, V [9]] 29 (0, 0)) := by
      rw [hb6.block B hBl]
      show (w5.alloc _).heap[B]? = _
      rw [Below.heap_alloc _ _ _ (by omega), HB15.out.block B (by omega)]
      exact HGB.out
    have hB4 : PBx (w6.setCell ⟨g2, p, none⟩ (.slice (some ⟨gv', 0, none⟩) (C [3, n, m, p] + 1) cap4)) B V := (heap_setCell_other _ _ _ _ (by simp; omega)).trans hB3
    have hK : Kp B lo w (w6.setCell ⟨g2, p, none⟩ (.slice (some ⟨gv', 0, none⟩) (C [3, n, m, p] + 1) cap4)) :=
      (((Kp.of_below (HB1.out.mono hlo) (by omega)).trans (Kp.of_below (HB15.out.mono (by omega)) (by omega))).trans (Kp.of_below ((((Below.refl lo w5).alloc (by omega) _).drew).trans hb6) (by have := hs6; simp at this; omega))).trans (Kp.of_row _ _ _ _ hgl2)
    have hcx : ∀ j, j < q → (w6.setCell ⟨g2, p, none⟩ (.slice (some ⟨gv', 0, none⟩) (C [3, n, m, p] + 1) cap4)).cell? ⟨w2.heap.size + 1, j, none⟩ = some (.int .u64 (A j)) := by
      intro j hj
      have e0 : (w6.setCell ⟨g2, p, none⟩ (.slice (some ⟨gv', 0, none⟩) (C [3, n, m, p] + 1) cap4)).heap[w2.heap.size + 1]? = w3.heap[w2.heap.size + 1]? := by
        rw [heap_setCell_other _ _ _ _ (by simp; omega), hq6 (w2.heap.size + 1) (by simp; omega) (fun g' hg' => by have := R1.out.ownLt hg'; omega)]
        show (w5.alloc _).heap[_]? = _
        rw [Below.heap_alloc _ _ _ (by omega), HB5.out.block _ hwx]
      rw [World.cell?_of_block (w := w3) e0]
      exact HCL.out j hj
    have HF := hide (And.intro hK (And.intro R7 (And.intro hB4 hcx)))
    clear R7 hB4 hK hB3 hb6 hq6 hcx d0 d1 d2 e3 e3' s1 s2 g4 g2' g3 g1
    go_wp2_with fail
    go_ret
    exact ⟨rfl, HF.out.1, own', _, w2.heap.size + 1, HF.out.2.1, HF.out.2.2.1, HF.out.2.2.2⟩)

end Go.Proofs.YbulkmvuFmt
