/-
  'parse' behind the header: CTA lines.
-/
import Derived.Test.YbulkmvuFmtParse
namespace Go.Proofs.YbulkmvuFmt
open Go.RowKit Go.Extern.Stop Go.Stop Go.Extern
set_option linter.unusedVariables false

theorem info59 : (Ybaf.prog.info? 59).map (fun i => (i.zero, i.size, i.bytes)) = some (some (.agg #[.slice none 0 0]), 1, 24) := by kernel_rfl
theorem info49 : (Ybaf.prog.info? 49).map (fun i => (i.zero, i.size, i.bytes)) = some (some (.agg #[.slice none 0 0]), 1, 24) := by kernel_rfl

theorem Kp.of_row {B lo : Nat} (a : World) (g j : Nat) (v : Value) (hg : lo ≤ g) : Kp B lo a (a.setCell ⟨g, j, none⟩ v) := ⟨rfl, rfl, rfl, by simp [World.setCell], fun q hq _ => heap_setCell_other _ _ _ _ (by simp; omega)⟩

set_option maxHeartbeats 4000000 in
set_option maxRecDepth 100000 in
theorem parse_cta0 (w : World) (own : Nat → List Nat) (lo B b c : Nat) (V : List Nat → Value) (C : List Nat → Nat) (X : List Nat → List Value) (line : Int) (R : Rws w own lo V C X) (hB : PBx w B V) (hBl : B < lo) (hlo : lo ≤ w.heap.size) (hc : 2 ≤ c) (a0 : Option Addr) (k0 : Nat) (hV : V [0] = .slice a0 0 k0)
    (hk : w.cell? ⟨b, 0, none⟩ = some (.string ⟨#[99, 116, 97]⟩)) :
    Calls Ybaf.prog 5 #[.pointer (some ⟨B, 0, none⟩), .slice (some ⟨b, 0, none⟩) 2 c, .int .i64 line] w fun e w' => (∃ a, e = .returned (.iface 75 (.pointer (some a)))) ∧ Below w.heap.size w w' := by
  have hc1 : ¬ c = 1 := by omega
  have hp2 : (1 : Int) ≤ (c : Int) := by omega
  have h3 : w.cell? ⟨B, 3, none⟩ = some (.bool true) := by rw [cell_of_row _ _ _ _ _ _ hB]; rfl
  have RR := hide R
  have HB := hide hB
  clear R hB
  go_enter Ybaf.func5, Ybaf.ntmps5
  go_wp2_with fail
  go_quiet (fail)
  generalize hw1 : w.drewN nq = w1
  have hb1 : Below w.heap.size w w1 := by rw [← hw1]; exact below_drewN (Below.refl _ _) _
  have hs1 : w1.heap.size = w.heap.size := by rw [← hw1]; rfl
  have g3 : w1.cell? ⟨B, 3, none⟩ = some (.bool true) := by rw [← hw1]; exact h3
  have gB : w1.heap[B]? = some (.cells #[V [8], V [0], .int .i64 4, .bool true, V [9]] 29 (0, 0)) := by rw [← hw1]; exact HB.out
  have g1 : w1.cell? ⟨B, 1, none⟩ = some (V [0]) := by rw [cell_of_row _ _ _ _ _ _ gB]; rfl
  have R1 : Hid (Rws w1 own lo V C X) := hide (RR.out.below hb1)
  have HB1 := hide hb1
  have HGB := hide gB
  rw [hV] at g1
  clear hw1 hb1 h3 hk gB
  go_wp2_with (first | (go_at_call 12; refine (kernel_none w1 B a0 k0 g1).mono ?_; rintro e w' ⟨rfl, rfl⟩) | (go_at_call 10; refine (new_any _ _).mono ?_; rintro e w2 ⟨⟨a, rfl⟩, hb2⟩; have HB2 := hide hb2; clear hb2) | fail)
  go_ret
  exact ⟨⟨_, rfl⟩, HB1.out.trans (HB2.out.mono HB1.out.size)⟩

set_option maxHeartbeats 4000000 in
set_option maxRecDepth 100000 in
theorem parse_cta_bad (F : Interp) (w : World) (own : Nat → List Nat) (lo B b c : Nat) (V : List Nat → Value) (C : List Nat → Nat) (X : List Nat → List Value) (line : Int) (R : Rws w own lo V C X) (hB : PBx w B V) (hBl : B < lo) (hlo : lo ≤ w.heap.size) (hc : 2 ≤ c) (g n k0 : Nat) (a1 : Option Addr) (m k1 U : Nat) (l : List UInt8) (hF : F.answers w.tape) (hn : n ≤ 2000) (hV : V [0] = .slice (some ⟨g, 0, none⟩) (n + 1) k0) (hV1 : w.cell? ⟨g, n * 2 + 1, none⟩ = some (.slice a1 m k1)) (hm : m ≤ 1500) (hU : U ≤ 2000) (hne : U ≠ m) (hN : Num 10 U l)
    (hk : w.cell? ⟨b, 0, none⟩ = some (.string ⟨#[99, 116, 97]⟩)) (ha : w.cell? ⟨b, 1, none⟩ = some (.string ⟨l.toArray⟩)) :
    Calls Ybaf.prog 5 #[.pointer (some ⟨B, 0, none⟩), .slice (some ⟨b, 0, none⟩) 2 c, .int .i64 line] w fun e w' => (∃ a, e = .returned (.iface 75 (.pointer (some a)))) ∧ Below w.heap.size w w' := by
  have hc1 : ¬ c = 1 := by omega
  have hp2 : (1 : Int) ≤ (c : Int) := by omega
  have h3 : w.cell? ⟨B, 3, none⟩ = some (.bool true) := by rw [cell_of_row _ _ _ _ _ _ hB]; rfl
  have RR := hide R
  have HB := hide hB
  clear R hB
  go_enter Ybaf.func5, Ybaf.ntmps5
  go_wp2_with fail
  go_quiet (fail)
  generalize hw1 : w.drewN nq = w1
  have hb1 : Below w.heap.size w w1 := by rw [← hw1]; exact below_drewN (Below.refl _ _) _
  have hs1 : w1.heap.size = w.heap.size := by rw [← hw1]; rfl
  have g3 : w1.cell? ⟨B, 3, none⟩ = some (.bool true) := by rw [← hw1]; exact h3
  have gB : w1.heap[B]? = some (.cells #[V [8], V [0], .int .i64 4, .bool true, V [9]] 29 (0, 0)) := by rw [← hw1]; exact HB.out
  have g1 : w1.cell? ⟨B, 1, none⟩ = some (V [0]) := by rw [cell_of_row _ _ _ _ _ _ gB]; rfl
  have R1 : Hid (Rws w1 own lo V C X) := hide (RR.out.below hb1)
  have HB1 := hide hb1
  have HGB := hide gB
  rw [hV] at g1
  have gv : w1.cell? ⟨g, n * 2 + 1, none⟩ = some (.slice a1 m k1) := by rw [← hw1]; exact hV1
  have ga : w1.cell? ⟨b, 1, none⟩ = some (.string ⟨l.toArray⟩) := by rw [← hw1]; exact ha
  have hF1 : F.answers w1.tape := by rw [← hw1]; exact hF
  have GA := hide ga
  clear hw1 hb1 h3 hk gB hV1 ha ga
  go_wp2_with (first | (go_at_call 12; refine (kernel_some w1 B g n k0 hn g1).mono ?_; rintro e w' ⟨rfl, rfl⟩) | (go_at_call 13; refine (index_bad F _ b 1 (c - 1) U m l _ hF1 hU hne hN GA.out).mono ?_; rintro e w2 ⟨⟨a, rfl⟩, hb2⟩; have HB2 := hide hb2; clear hb2) | fail)
  go_ret
  exact ⟨⟨_, rfl⟩, HB1.out.trans (HB2.out.mono HB1.out.size)⟩
set_option maxHeartbeats 4000000 in
set_option maxRecDepth 100000 in
theorem parse_cta (w : World) (own : Nat → List Nat) (lo B b c : Nat) (V : List Nat → Value) (C : List Nat → Nat) (X : List Nat → List Value) (line : Int) (R : Rws w own lo V C X) (hB : PBx w B V) (hBl : B < lo) (hlo : lo ≤ w.heap.size) (hc : 2 ≤ c) (g n k0 : Nat) (a1 : Option Addr) (k1 : Nat) (l : List UInt8) (hn : n ≤ 2000) (hV : V [0] = .slice (some ⟨g, 0, none⟩) (n + 1) k0) (hV1 : V [1, n] = .slice a1 (C [1, n]) k1) (hX : (X [0])[n * 2 + 1]? = some (V [1, n])) (hm : C [1, n] ≤ 1500) (hN : Num 10 (C [1, n]) l)
    (hk : w.cell? ⟨b, 0, none⟩ = some (.string ⟨#[99, 116, 97]⟩)) (ha : w.cell? ⟨b, 1, none⟩ = some (.string ⟨l.toArray⟩)) :
    Calls Ybaf.prog 5 #[.pointer (some ⟨B, 0, none⟩), .slice (some ⟨b, 0, none⟩) 2 c, .int .i64 line] w fun e w' => e = .returned .nilIface ∧ Kp B lo w w' ∧ ∃ own' v', Rws w' own' lo (upd V [1, n] v') (upd C [1, n] (C [1, n] + 1)) (upd (upd X [1, n] (X [1, n] ++ [.slice none 0 0])) [0] ((X [0]).set (n * 2 + 1) v')) ∧ PBx w' B V := by
  obtain ⟨i59, hi, hz0, hz1, hz2⟩ := info_parts info59
  have hC0 : 0 < C [0] := by
    rcases (R [0]).1.2 with ⟨h, _⟩ | ⟨g', cap, cur, h, _⟩
    · rw [hV] at h; simp at h
    · rw [hV] at h; simp at h; omega
  obtain ⟨g', cap', e1, hgl, hgs, -, -, hgc, hgf⟩ := R.at [0] hC0
  have hgg : g' = g := by rw [hV] at e1; simp at e1; exact e1.1.symm
  subst hgg
  have hv1 : w.cell? ⟨g', n * 2 + 1, none⟩ = some (.slice a1 (C [1, n]) k1) := by rw [hgc _ _ hX, hV1]
  have hc1 : ¬ c = 1 := by omega
  have hp2 : (1 : Int) ≤ (c : Int) := by omega
  have h3 : w.cell? ⟨B, 3, none⟩ = some (.bool true) := by rw [cell_of_row _ _ _ _ _ _ hB]; rfl
  have RR := hide R
  have HB := hide hB
  clear R hB
  go_enter Ybaf.func5, Ybaf.ntmps5
  go_wp2_with fail
  go_quiet (fail)
  generalize hw1 : w.drewN nq = w1
  have hb1 : Below w.heap.size w w1 := by rw [← hw1]; exact below_drewN (Below.refl _ _) _
  have hs1 : w1.heap.size = w.heap.size := by rw [← hw1]; rfl
  have g3 : w1.cell? ⟨B, 3, none⟩ = some (.bool true) := by rw [← hw1]; exact h3
  have gB : w1.heap[B]? = some (.cells #[V [8], V [0], .int .i64 4, .bool true, V [9]] 29 (0, 0)) := by rw [← hw1]; exact HB.out
  have g1 : w1.cell? ⟨B, 1, none⟩ = some (V [0]) := by rw [cell_of_row _ _ _ _ _ _ gB]; rfl
  have R1 : Hid (Rws w1 own lo V C X) := hide (RR.out.below hb1)
  have HB1 := hide hb1
  have HGB := hide gB
  rw [hV] at g1
  have gv : w1.cell? ⟨g', n * 2 + 1, none⟩ = some (.slice a1 (C [1, n]) k1) := by rw [← hw1]; exact hv1
  have ga : w1.cell? ⟨b, 1, none⟩ = some (.string ⟨l.toArray⟩) := by rw [← hw1]; exact ha
  have GA := hide ga
  have HV1 := hide hV1
  have HV := hide hV
  have HX := hide hX
  clear hw1 hb1 h3 hk gB hv1 ha ga hgc hgf hX hV1 hV e1
  go_wp2_with (first | (go_at_call 12; refine (kernel_some w1 B g' n k0 hn g1).mono ?_; rintro e w' ⟨rfl, hw'⟩; obtain rfl : w1 = w' := hw'.symm; clear hw') | fail)
  refine (index_ok _ b 1 (c - 1) (C [1, n]) l w1 (by omega) hN GA.out).mono ?_
  rintro e w2 ⟨rfl, hb2⟩
  have gv2 : w2.cell? ⟨g', n * 2 + 1, none⟩ = some (.slice a1 (C [1, n]) k1) := (hb2.cell (show g' < w1.heap.size by omega)).trans gv
  have R2 : Hid (Rws w2 own lo V C X) := hide (R1.out.below hb2)
  have hs2 := hb2.size
  have HB2 := hide hb2
  clear hb2 gv
  go_wp2_with (first | (refine wpList_append_stop rfl _ _ 54 rfl ?_) | fail)
  refine ⟨1, rfl, ?_⟩
  have R3 : Rws (w2.alloc (.cells #[.slice none 0 0] 59)) own lo V C X := R2.out.below ((Below.refl _ _).alloc (Nat.le_refl _) _)
  refine wpList_append_rws rfl (.tmp 141) (.tmp 143) 54 rfl [1, n] i59 _ 24 Ybaf.underlying54 hi hz0 hz1 hz2 rfl (by show 0 < 1; omega) ?hs R3 ⟨w2.heap.size, 0, none⟩ 1 [.slice none 0 0] ?hx rfl ?hn ?h1 (by omega) (by omega) ?hl ?_
  case hs => exact HV1.out.symm
  case hx => rfl
  case hn =>
    intro j u hu
    have hj : j = 0 := by have := (List.getElem?_eq_some_iff.1 hu).1; simpa using this
    subst hj
    simp at hu
    subst hu
    exact boxed_cell w2 _ 59
  case h1 => intro u hu; simp at hu; subst hu; rfl
  case hl => simp; omega
  intro v' w3 own' R4 hb4 hs4 hv4
  obtain ⟨gv', cap4, rfl⟩ := hv4
  have hV' : upd V [1, n] (.slice (some ⟨gv', 0, none⟩) (C [1, n] + 1) cap4) [0] = .slice (some ⟨g', 0, none⟩) (n + 1) k0 := by rw [upd_other _ _ (by simp)]; exact HV.out
  have hC0' : 0 < upd C [1, n] (C [1, n] + 1) [0] := by rw [upd_other _ _ (by simp)]; exact hC0
  obtain ⟨g2, cap2, e2, -, hgs2, -, -, hgc2, hgf2⟩ := R4.at [0] hC0'
  have hgg2 : g2 = g' := by rw [hV'] at e2; simp at e2; exact e2.1.symm
  subst hgg2
  have R5 := R4.set [0] g2 k0 (n + 1) (n * 2 + 1) (.slice (some ⟨gv', 0, none⟩) (C [1, n] + 1) cap4) hV'
  have hx0 : upd X [1, n] (X [1, n] ++ [.slice none 0 0]) [0] = X [0] := upd_other _ _ (by simp)
  rw [hx0] at R5 hgc2
  have s1 := hgc2 _ _ HX.out
  have s2 := hgf2 (n * 2 + 1)
  have hB3 : w3.heap[B]? = some (.cells #[V [8], V [0], .int .i64 4, .bool true, V [9]] 29 (0, 0)) := by
    rw [hb4.block B hBl, Below.heap_alloc _ _ _ (by omega), HB2.out.block B (by omega)]
    exact HGB.out
  have hB4 : PBx (w3.setCell ⟨g2, n * 2 + 1, none⟩ (.slice (some ⟨gv', 0, none⟩) (C [1, n] + 1) cap4)) B V := (heap_setCell_other _ _ _ _ (by simp; omega)).trans hB3
  have hK : Kp B lo w (w3.setCell ⟨g2, n * 2 + 1, none⟩ (.slice (some ⟨gv', 0, none⟩) (C [1, n] + 1) cap4)) :=
    (((Kp.of_below (HB1.out.mono hlo) (by omega)).trans (Kp.of_below (HB2.out.mono (by omega)) hs2)).trans (Kp.of_below (((Below.refl lo w2).alloc (by omega) _).trans hb4) (by have := hs4; simp at this; omega))).trans (Kp.of_row _ _ _ _ hgl)
  have HF := hide (And.intro hK (And.intro R5 hB4))
  clear R5 hB4 hK hB3 R4 hb4 hgc2 hgf2 hV' hC0' e2 gv2 R3 hx0
  go_wp2_with fail
  go_ret
  exact ⟨rfl, HF.out.1, own', _, HF.out.2.1, HF.out.2.2⟩
end Go.Proofs.YbulkmvuFmt
