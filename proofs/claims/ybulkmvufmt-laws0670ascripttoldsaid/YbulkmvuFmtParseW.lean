/-
  'parse' behind the header: warp lines.
-/
import Derived.Test.YbulkmvuFmtParseC
namespace Go.Proofs.YbulkmvuFmt
open Go.RowKit Go.Extern.Stop Go.Stop Go.Extern
set_option linter.unusedVariables false


theorem Rws.rowLo {w : World} {own : Nat → List Nat} {lo : Nat} {V : List Nat → Value} {C : List Nat → Nat} {X : List Nat → List Value} (h : Rws w own lo V C X) {t : List Nat} {g n k : Nat} (hv : V t = .slice (some ⟨g, 0, none⟩) n k) : lo ≤ g := by
  rcases (h t).1.2 with ⟨h0, _⟩ | ⟨g', cap, cur, h1, h2, _⟩
  · rw [hv] at h0; simp at h0
  · rw [hv] at h1; simp at h1; omega

theorem Rws.frozenAt {w : World} {own : Nat → List Nat} {lo : Nat} {V : List Nat → Value} {C : List Nat → Nat} {X : List Nat → List Value} (h : Rws w own lo V C X) {t : List Nat} {g n k : Nat} (hv : V t = .slice (some ⟨g, 0, none⟩) n k) (j : Nat) : w.frozen? ⟨g, j, none⟩ = false := by
  rcases (h t).1.2 with ⟨h0, _⟩ | ⟨g', cap, cur, h1, h2, h3, _⟩
  · rw [hv] at h0; simp at h0
  · have e : g' = g := by rw [hv] at h1; simp at h1; exact h1.1.symm
    subst e
    exact frozen_of_row _ _ _ _ _ h3

theorem Rws.cellAt {w : World} {own : Nat → List Nat} {lo : Nat} {V : List Nat → Value} {C : List Nat → Nat} {X : List Nat → List Value} (h : Rws w own lo V C X) {t : List Nat} {g n k j : Nat} {u : Value} (hv : V t = .slice (some ⟨g, 0, none⟩) n k) (hx : (X t)[j]? = some u) : g < w.heap.size ∧ w.cell? ⟨g, j, none⟩ = some u := by
  rcases (h t).1.2 with ⟨h0, _⟩ | ⟨g', cap, cur, h1, h2, h3, h4, h5, h6, h7⟩
  · rw [hv] at h0; simp at h0
  · have e : g' = g := by rw [hv] at h1; simp at h1; exact h1.1.symm
    subst e
    refine ⟨lt_of_block h3, ?_⟩
    rw [cell_of_row _ _ _ _ _ _ h3]
    rw [← h7, List.getElem?_take] at hx
    split at hx
    · simpa using hx
    · simp at hx

set_option maxHeartbeats 4000000 in
set_option maxRecDepth 100000 in
theorem parse_warp0 (w : World) (own : Nat → List Nat) (lo B b c : Nat) (V : List Nat → Value) (C : List Nat → Nat) (X : List Nat → List Value) (line : Int) (R : Rws w own lo V C X) (hB : PBx w B V) (hBl : B < lo) (hlo : lo ≤ w.heap.size) (hc : 2 ≤ c) (hno : ∀ k, Calls Ybaf.prog 14 #[.pointer (some ⟨B, 0, none⟩)] (w.drewN k) fun e w' => e = .returned (.pointer none) ∧ ∃ j, w' = (w.drewN k).drewN j)
    (hk : w.cell? ⟨b, 0, none⟩ = some (.string ⟨#[119, 97, 114, 112]⟩)) :
    Calls Ybaf.prog 5 #[.pointer (some ⟨B, 0, none⟩), .slice (some ⟨b, 0, none⟩) 2 c, .int .i64 line] w fun e w' => (∃ a, e = .returned (.iface 75 (.pointer (some a)))) ∧ Below w.heap.size w w' := by
  have hc1 : ¬ c = 1 := by omega
  have hp2 : (1 : Int) ≤ (c : Int) := by omega
  have h3 : w.cell? ⟨B, 3, none⟩ = some (.bool true) := by rw [cell_of_row _ _ _ _ _ _ hB]; rfl
  have RR := hide R
  have HB := hide hB
  clear R hB
  go_enter Ybaf.func5, Ybaf.ntmps5
  go_wp2_with fail
  go_quiet (fail)
  generalize hw1 : w.drewN nq = w1
  have hb1 : Below w.heap.size w w1 := by rw [← hw1]; exact below_drewN (Below.refl _ _) _
  have hs1 : w1.heap.size = w.heap.size := by rw [← hw1]; rfl
  have g3 : w1.cell? ⟨B, 3, none⟩ = some (.bool true) := by rw [← hw1]; exact h3
  have gB : w1.heap[B]? = some (.cells #[V [8], V [0], .int .i64 4, .bool true, V [9]] 29 (0, 0)) := by rw [← hw1]; exact HB.out
  have g1 : w1.cell? ⟨B, 1, none⟩ = some (V [0]) := by rw [cell_of_row _ _ _ _ _ _ gB]; rfl
  have R1 : Hid (Rws w1 own lo V C X) := hide (RR.out.below hb1)
  have HB1 := hide hb1
  have HGB := hide gB
  have HNO : Hid (Calls Ybaf.prog 14 #[.pointer (some ⟨B, 0, none⟩)] w1 fun e w' => e = .returned (.pointer none) ∧ ∃ j, w' = w1.drewN j) := hide (by rw [← hw1]; exact hno nq)
  clear hw1 hb1 h3 hk gB hno
  go_wp2_with (first | (go_at_call 14; refine HNO.out.mono ?_; rintro e w2 ⟨rfl, j, hj⟩; have HB2 : Hid (Below w1.heap.size w1 w2) := hide (by rw [hj]; exact below_drewN (Below.refl _ _) _); clear hj) | (go_at_call 10; refine (new_any _ _).mono ?_; rintro e w3 ⟨⟨a, rfl⟩, hb3⟩; have HB3 := hide hb3; clear hb3) | fail)
  go_ret
  exact ⟨⟨_, rfl⟩, HB1.out.trans ((HB2.out.trans (HB3.out.mono HB2.out.size)).mono HB1.out.size)⟩

set_option maxHeartbeats 4000000 in
set_option maxRecDepth 100000 in
theorem parse_warp_bad (F : Interp) (w : World) (own : Nat → List Nat) (lo B b c : Nat) (V : List Nat → Value) (C : List Nat → Nat) (X : List Nat → List Value) (line : Int) (R : Rws w own lo V C X) (hB : PBx w B V) (hBl : B < lo) (hlo : lo ≤ w.heap.size) (hc : 2 ≤ c) (g n k0 g1' m k1 : Nat) (a2 : Option Addr) (p k2 U : Nat) (l : List UInt8) (hF : F.answers w.tape) (hn : n ≤ 2000) (hm : m ≤ 2000) (hV : V [0] = .slice (some ⟨g, 0, none⟩) (n + 1) k0) (hV1 : w.cell? ⟨g, n * 2 + 1, none⟩ = some (.slice (some ⟨g1', 0, none⟩) (m + 1) k1)) (hV2 : w.cell? ⟨g1', m, none⟩ = some (.slice a2 p k2)) (hU : U ≤ 2000) (hne : U ≠ p) (hN : Num 10 U l)
    (hk : w.cell? ⟨b, 0, none⟩ = some (.string ⟨#[119, 97, 114, 112]⟩)) (ha : w.cell? ⟨b, 1, none⟩ = some (.string ⟨l.toArray⟩)) :
    Calls Ybaf.prog 5 #[.pointer (some ⟨B, 0, none⟩), .slice (some ⟨b, 0, none⟩) 2 c, .int .i64 line] w fun e w' => (∃ a, e = .returned (.iface 75 (.pointer (some a)))) ∧ Below w.heap.size w w' := by
  have hc1 : ¬ c = 1 := by omega
  have hp2 : (1 : Int) ≤ (c : Int) := by omega
  have h3 : w.cell? ⟨B, 3, none⟩ = some (.bool true) := by rw [cell_of_row _ _ _ _ _ _ hB]; rfl
  have RR := hide R
  have HB := hide hB
  clear R hB
  go_enter Ybaf.func5, Ybaf.ntmps5
  go_wp2_with fail
  go_quiet (fail)
  generalize hw1 : w.drewN nq = w1
  have hb1 : Below w.heap.size w w1 := by rw [← hw1]; exact below_drewN (Below.refl _ _) _
  have hs1 : w1.heap.size = w.heap.size := by rw [← hw1]; rfl
  have g3 : w1.cell? ⟨B, 3, none⟩ = some (.bool true) := by rw [← hw1]; exact h3
  have gB : w1.heap[B]? = some (.cells #[V [8], V [0], .int .i64 4, .bool true, V [9]] 29 (0, 0)) := by rw [← hw1]; exact HB.out
  have g1 : w1.cell? ⟨B, 1, none⟩ = some (V [0]) := by rw [cell_of_row _ _ _ _ _ _ gB]; rfl
  have R1 : Hid (Rws w1 own lo V C X) := hide (RR.out.below hb1)
  have HB1 := hide hb1
  have HGB := hide gB
  rw [hV] at g1
  have gv : w1.cell? ⟨g, n * 2 + 1, none⟩ = some (.slice (some ⟨g1', 0, none⟩) (m + 1) k1) := by rw [← hw1]; exact hV1
  have gv2 : w1.cell? ⟨g1', m, none⟩ = some (.slice a2 p k2) := by rw [← hw1]; exact hV2
  have ga : w1.cell? ⟨b, 1, none⟩ = some (.string ⟨l.toArray⟩) := by rw [← hw1]; exact ha
  have hF1 : F.answers w1.tape := by rw [← hw1]; exact hF
  have HC := hide (cta_some w1 B g n k0 g1' m k1 hn hm g1 gv)
  have GA := hide ga
  have GV2 := hide gv2
  clear hw1 hb1 h3 hk gB hV1 ha ga hV2 gv gv2
  go_wp2_with (first | (go_at_call 14; refine HC.out.mono ?_; rintro e w2 ⟨rfl, j, hj⟩; have HB2 : Hid (Below w1.heap.size w1 w2) := hide (by rw [hj]; exact below_drewN (Below.refl _ _) _); have gw : w2.cell? ⟨g1', m, none⟩ = some (.slice a2 p k2) := (by rw [hj]; exact GV2.out); have HAA : Hid (w2.cell? ⟨b, 1, none⟩ = some (.string ⟨l.toArray⟩)) := hide (by rw [hj]; exact GA.out); have hF2 : F.answers w2.tape := (by rw [hj]; exact hF1); clear hj) | fail)
  refine (index_bad F _ b 1 (c - 1) U p l w2 hF2 hU hne hN HAA.out).mono ?_
  rintro e w3 ⟨⟨a, rfl⟩, hb3⟩
  have HB3 := hide hb3
  clear hb3
  go_wp2_with fail
  go_ret
  exact ⟨⟨_, rfl⟩, HB1.out.trans ((HB2.out.trans (HB3.out.mono HB2.out.size)).mono HB1.out.size)⟩

set_option maxHeartbeats 4000000 in
set_option maxRecDepth 100000 in
theorem parse_warp (w : World) (own : Nat → List Nat) (lo B b c : Nat) (V : List Nat → Value) (C : List Nat → Nat) (X : List Nat → List Value) (line : Int) (R : Rws w own lo V C X) (hB : PBx w B V) (hBl : B < lo) (hlo : lo ≤ w.heap.size) (hc : 2 ≤ c) (g n k0 g1' m k1 : Nat) (a2 : Option Addr) (k2 : Nat) (l : List UInt8) (hn : n ≤ 2000) (hm : m ≤ 2000) (hV : V [0] = .slice (some ⟨g, 0, none⟩) (n + 1) k0) (hV1 : V [1, n] = .slice (some ⟨g1', 0, none⟩) (m + 1) k1) (hV2 : V [2, n, m] = .slice a2 (C [2, n, m]) k2)
    (hX : (X [0])[n * 2 + 1]? = some (V [1, n])) (hX1 : (X [1, n])[m]? = some (V [2, n, m])) (hp : C [2, n, m] ≤ 1500) (hN : Num 10 (C [2, n, m]) l)
    (hk : w.cell? ⟨b, 0, none⟩ = some (.string ⟨#[119, 97, 114, 112]⟩)) (ha : w.cell? ⟨b, 1, none⟩ = some (.string ⟨l.toArray⟩)) :
    Calls Ybaf.prog 5 #[.pointer (some ⟨B, 0, none⟩), .slice (some ⟨b, 0, none⟩) 2 c, .int .i64 line] w fun e w' => e = .returned .nilIface ∧ Kp B lo w w' ∧ ∃ own' v', Rws w' own' lo (upd V [2, n, m] v') (upd C [2, n, m] (C [2, n, m] + 1)) (upd (upd X [2, n, m] (X [2, n, m] ++ [.slice none 0 0])) [1, n] ((X [1, n]).set m v')) ∧ PBx w' B V := by
  obtain ⟨i49, hi, hz0, hz1, hz2⟩ := info_parts info49
  obtain ⟨hgs, hv1⟩ : g < w.heap.size ∧ w.cell? ⟨g, n * 2 + 1, none⟩ = some (.slice (some ⟨g1', 0, none⟩) (m + 1) k1) := by
    have := R.cellAt hV hX
    rw [hV1] at this
    exact this
  obtain ⟨hgs1, hv2⟩ : g1' < w.heap.size ∧ w.cell? ⟨g1', m, none⟩ = some (.slice a2 (C [2, n, m]) k2) := by
    have := R.cellAt hV1 hX1
    rw [hV2] at this
    exact this
  have hgl1 := R.rowLo hV1
  have hc1 : ¬ c = 1 := by omega
  have hp2 : (1 : Int) ≤ (c : Int) := by omega
  have h3 : w.cell? ⟨B, 3, none⟩ = some (.bool true) := by rw [cell_of_row _ _ _ _ _ _ hB]; rfl
  have RR := hide R
  have HB := hide hB
  clear R hB
  go_enter Ybaf.func5, Ybaf.ntmps5
  go_wp2_with fail
  go_quiet (fail)
  generalize hw1 : w.drewN nq = w1
  have hb1 : Below w.heap.size w w1 := by rw [← hw1]; exact below_drewN (Below.refl _ _) _
  have hs1 : w1.heap.size = w.heap.size := by rw [← hw1]; rfl
  have g3 : w1.cell? ⟨B, 3, none⟩ = some (.bool true) := by rw [← hw1]; exact h3
  have gB : w1.heap[B]? = some (.cells #[V [8], V [0], .int .i64 4, .bool true, V [9]] 29 (0, 0)) := by rw [← hw1]; exact HB.out
  have g1 : w1.cell? ⟨B, 1, none⟩ = some (V [0]) := by rw [cell_of_row _ _ _ _ _ _ gB]; rfl
  have R1 : Hid (Rws w1 own lo V C X) := hide (RR.out.below hb1)
  have HB1 := hide hb1
  have HGB := hide gB
  rw [hV] at g1
  have gv : w1.cell? ⟨g, n * 2 + 1, none⟩ = some (.slice (some ⟨g1', 0, none⟩) (m + 1) k1) := by rw [← hw1]; exact hv1
  have gv2 : w1.cell? ⟨g1', m, none⟩ = some (.slice a2 (C [2, n, m]) k2) := by rw [← hw1]; exact hv2
  have ga : w1.cell? ⟨b, 1, none⟩ = some (.string ⟨l.toArray⟩) := by rw [← hw1]; exact ha
  have HC := hide (cta_some w1 B g n k0 g1' m k1 hn hm g1 gv)
  have GA := hide ga
  have GV2 := hide gv2
  have HV1 := hide hV1
  have HV2 := hide hV2
  have HX1 := hide hX1
  clear hw1 hb1 h3 hk gB hv1 ha ga hv2 gv gv2 hV hV1 hV2 hX hX1
  go_wp2_with (first | (go_at_call 14; refine HC.out.mono ?_; rintro e w2 ⟨rfl, j, hj⟩; have HB2 : Hid (Below w1.heap.size w1 w2) := hide (by rw [hj]; exact below_drewN (Below.refl _ _) _); have gw : w2.cell? ⟨g1', m, none⟩ = some (.slice a2 (C [2, n, m]) k2) := (by rw [hj]; exact GV2.out); have HAA : Hid (w2.cell? ⟨b, 1, none⟩ = some (.string ⟨l.toArray⟩)) := hide (by rw [hj]; exact GA.out); clear hj) | fail)
  refine (index_ok _ b 1 (c - 1) (C [2, n, m]) l w2 (by omega) hN HAA.out).mono ?_
  rintro e w3 ⟨rfl, hb3⟩
  have hs2 := HB2.out.size
  have hs3 := hb3.size
  have gv3 : w3.cell? ⟨g1', m, none⟩ = some (.slice a2 (C [2, n, m]) k2) := (hb3.cell (show g1' < w2.heap.size by omega)).trans gw
  have R2 : Hid (Rws w3 own lo V C X) := hide ((R1.out.below HB2.out).below hb3)
  have HB3 := hide hb3
  clear hb3 gw
  go_wp2_with (first | (refine wpList_append_stop rfl _ _ 57 rfl ?_) | fail)
  refine ⟨1, rfl, ?_⟩
  have R3 : Rws (w3.alloc (.cells #[.slice none 0 0] 49)) own lo V C X := R2.out.below ((Below.refl _ _).alloc (Nat.le_refl _) _)
  refine wpList_append_rws rfl (.tmp 168) (.tmp 170) 57 rfl [2, n, m] i49 _ 24 Ybaf.underlying57 hi hz0 hz1 hz2 rfl (by show 0 < 1; omega) ?hs R3 ⟨w3.heap.size, 0, none⟩ 1 [.slice none 0 0] ?hx rfl ?hn ?h1 (by omega) (by omega) ?hl ?_
  case hs => exact HV2.out.symm
  case hx => rfl
  case hn =>
    intro j u hu
    have hj : j = 0 := by have := (List.getElem?_eq_some_iff.1 hu).1; simpa using this
    subst hj
    simp at hu
    subst hu
    exact boxed_cell w3 _ 49
  case h1 => intro u hu; simp at hu; subst hu; rfl
  case hl => simp; omega
  intro v' w4 own' R4 hb4 hs4 hv4
  obtain ⟨gv', cap4, rfl⟩ := hv4
  have hV' : upd V [2, n, m] (.slice (some ⟨gv', 0, none⟩) (C [2, n, m] + 1) cap4) [1, n] = .slice (some ⟨g1', 0, none⟩) (m + 1) k1 := by rw [upd_other _ _ (by simp)]; exact HV1.out
  have hx0 : upd X [2, n, m] (X [2, n, m] ++ [.slice none 0 0]) [1, n] = X [1, n] := upd_other _ _ (by simp)
  have s1 := (R4.cellAt hV' (by rw [hx0]; exact HX1.out)).2
  have s2 := R4.frozenAt hV' m
  have R5 := R4.set [1, n] g1' k1 (m + 1) m (.slice (some ⟨gv', 0, none⟩) (C [2, n, m] + 1) cap4) hV'
  rw [hx0] at R5
  have hB3 : w4.heap[B]? = some (.cells #[V [8], V [0], .int .i64 4, .bool true, V [9]] 29 (0, 0)) := by
    rw [hb4.block B hBl, Below.heap_alloc _ _ _ (by omega), HB3.out.block B (by omega), HB2.out.block B (by omega)]
    exact HGB.out
  have hB4 : PBx (w4.setCell ⟨g1', m, none⟩ (.slice (some ⟨gv', 0, none⟩) (C [2, n, m] + 1) cap4)) B V := (heap_setCell_other _ _ _ _ (by simp; omega)).trans hB3
  have hK : Kp B lo w (w4.setCell ⟨g1', m, none⟩ (.slice (some ⟨gv', 0, none⟩) (C [2, n, m] + 1) cap4)) :=
    ((((Kp.of_below (HB1.out.mono hlo) (by omega)).trans (Kp.of_below (HB2.out.mono (by omega)) hs2)).trans (Kp.of_below (HB3.out.mono (by omega)) hs3)).trans (Kp.of_below (((Below.refl lo w3).alloc (by omega) _).trans hb4) (by have := hs4; simp at this; omega))).trans (Kp.of_row _ _ _ _ hgl1)
  have HF := hide (And.intro hK (And.intro R5 hB4))
  clear R5 hB4 hK hB3 R4 hb4 hV' R3 hx0 gv3
  go_wp2_with fail
  go_ret
  exact ⟨rfl, HF.out.1, own', _, HF.out.2.1, HF.out.2.2⟩
end Go.Proofs.YbulkmvuFmt
