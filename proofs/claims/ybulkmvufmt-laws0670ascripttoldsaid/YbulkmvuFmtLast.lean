/-
  The last kernel, CTA and warp of a parser.
-/
import Derived.Test.YbulkmvuFmtMem
namespace Go.Proofs.YbulkmvuFmt
open Go.RowKit Go.Extern.Stop Go.Stop Go.Extern

theorem kernel_none (w : World) (B : Nat) (a : Option Addr) (c : Nat) (h : w.cell? ⟨B, 1, none⟩ = some (.slice a 0 c)) :
    Calls Ybaf.prog 12 #[.pointer (some ⟨B, 0, none⟩)] w fun e w' => e = .returned (.pointer none) ∧ w' = w := by
  go_enter Ybaf.func12, Ybaf.ntmps12
  go_wp2_with fail
  go_ret
  exact ⟨rfl, rfl⟩

theorem kernel_some (w : World) (B g n c : Nat) (hn : n ≤ 2000) (h : w.cell? ⟨B, 1, none⟩ = some (.slice (some ⟨g, 0, none⟩) (n + 1) c)) :
    Calls Ybaf.prog 12 #[.pointer (some ⟨B, 0, none⟩)] w fun e w' => e = .returned (.pointer (some ⟨g, n * 2, none⟩)) ∧ w' = w := by
  have h1 : (0 : Int) < (n : Int) + 1 := by omega
  go_enter Ybaf.func12, Ybaf.ntmps12
  go_wp2_with fail
  go_ret
  exact ⟨rfl, rfl⟩

theorem cta_none (w : World) (B : Nat) (a : Option Addr) (c : Nat) (h : w.cell? ⟨B, 1, none⟩ = some (.slice a 0 c)) :
    Calls Ybaf.prog 14 #[.pointer (some ⟨B, 0, none⟩)] w fun e w' => e = .returned (.pointer none) ∧ ∃ k, w' = w.drewN k := by
  go_enter Ybaf.func14, Ybaf.ntmps14
  go_wp2_with (go_at_call 12; refine (kernel_none _ B a c h).mono ?_; rintro e w' ⟨rfl, rfl⟩)
  go_ret
  exact ⟨rfl, 0, rfl⟩

theorem cta_none2 (w : World) (B g n c : Nat) (a : Option Addr) (c1 : Nat) (hn : n ≤ 2000) (h : w.cell? ⟨B, 1, none⟩ = some (.slice (some ⟨g, 0, none⟩) (n + 1) c)) (h1 : w.cell? ⟨g, n * 2 + 1, none⟩ = some (.slice a 0 c1)) :
    Calls Ybaf.prog 14 #[.pointer (some ⟨B, 0, none⟩)] w fun e w' => e = .returned (.pointer none) ∧ ∃ k, w' = w.drewN k := by
  go_enter Ybaf.func14, Ybaf.ntmps14
  go_wp2_with (go_at_call 12; refine (kernel_some _ B g n c hn h).mono ?_; rintro e w' ⟨rfl, rfl⟩)
  go_ret
  exact ⟨rfl, 0, rfl⟩

theorem cta_some (w : World) (B g n c g1 m c1 : Nat) (hn : n ≤ 2000) (hm : m ≤ 2000) (h : w.cell? ⟨B, 1, none⟩ = some (.slice (some ⟨g, 0, none⟩) (n + 1) c)) (h1 : w.cell? ⟨g, n * 2 + 1, none⟩ = some (.slice (some ⟨g1, 0, none⟩) (m + 1) c1)) :
    Calls Ybaf.prog 14 #[.pointer (some ⟨B, 0, none⟩)] w fun e w' => e = .returned (.pointer (some ⟨g1, m, none⟩)) ∧ ∃ k, w' = w.drewN k := by
  have hp1 : (0 : Int) < (m : Int) + 1 := by omega
  have hp2 : (m : Int) < (m : Int) + 1 := by omega
  have hp3 : (0 : Int) ≤ (m : Int) := by omega
  have hp4 : IntKind.i64.wrap ((m : Int) + 1 - 1) = (m : Int) := by rw [IntWalk.i64_in _ (by omega)]; omega
  have hp5 : IntKind.i64.wrap (m : Int) = (m : Int) := IntWalk.i64_in _ (by omega)
  go_enter Ybaf.func14, Ybaf.ntmps14
  go_wp2_with (go_at_call 12; refine (kernel_some _ B g n c hn h).mono ?_; rintro e w' ⟨rfl, rfl⟩)
  go_quiet (fail)
  go_wp2_with fail
  go_ret
  exact ⟨rfl, _, rfl⟩

theorem warp_none_of (w : World) (B : Nat) (hc : Calls Ybaf.prog 14 #[.pointer (some ⟨B, 0, none⟩)] w fun e w' => e = .returned (.pointer none) ∧ ∃ k, w' = w.drewN k) :
    Calls Ybaf.prog 8 #[.pointer (some ⟨B, 0, none⟩)] w fun e w' => e = .returned (.pointer none) ∧ ∃ k, w' = w.drewN k := by
  go_enter Ybaf.func8, Ybaf.ntmps8
  go_wp2_with (go_at_call 14; refine hc.mono ?_; rintro e w' ⟨rfl, k, rfl⟩)
  go_ret
  exact ⟨rfl, _, rfl⟩

theorem warp_none3 (w : World) (B g n c g1 m c1 : Nat) (a : Option Addr) (c2 : Nat) (hn : n ≤ 2000) (hm : m ≤ 2000) (h : w.cell? ⟨B, 1, none⟩ = some (.slice (some ⟨g, 0, none⟩) (n + 1) c)) (h1 : w.cell? ⟨g, n * 2 + 1, none⟩ = some (.slice (some ⟨g1, 0, none⟩) (m + 1) c1)) (h2 : w.cell? ⟨g1, m, none⟩ = some (.slice a 0 c2)) :
    Calls Ybaf.prog 8 #[.pointer (some ⟨B, 0, none⟩)] w fun e w' => e = .returned (.pointer none) ∧ ∃ k, w' = w.drewN k := by
  have hc := cta_some w B g n c g1 m c1 hn hm h h1
  have HC := hide hc
  clear hc
  go_enter Ybaf.func8, Ybaf.ntmps8
  go_wp2_with (go_at_call 14; refine HC.out.mono ?_; rintro e w' ⟨rfl, k, rfl⟩)
  go_ret
  exact ⟨rfl, _, rfl⟩

theorem warp_some (w : World) (B g n c g1 m c1 g2 p c2 : Nat) (hn : n ≤ 2000) (hm : m ≤ 2000) (hp : p ≤ 2000) (h : w.cell? ⟨B, 1, none⟩ = some (.slice (some ⟨g, 0, none⟩) (n + 1) c)) (h1 : w.cell? ⟨g, n * 2 + 1, none⟩ = some (.slice (some ⟨g1, 0, none⟩) (m + 1) c1)) (h2 : w.cell? ⟨g1, m, none⟩ = some (.slice (some ⟨g2, 0, none⟩) (p + 1) c2)) :
    Calls Ybaf.prog 8 #[.pointer (some ⟨B, 0, none⟩)] w fun e w' => e = .returned (.pointer (some ⟨g2, p, none⟩)) ∧ ∃ k, w' = w.drewN k := by
  have hp1 : (0 : Int) < (p : Int) + 1 := by omega
  have hp2 : (p : Int) < (p : Int) + 1 := by omega
  have hp3 : (0 : Int) ≤ (p : Int) := by omega
  have hp4 : IntKind.i64.wrap ((p : Int) + 1 - 1) = (p : Int) := by rw [IntWalk.i64_in _ (by omega)]; omega
  have hp5 : IntKind.i64.wrap (p : Int) = (p : Int) := IntWalk.i64_in _ (by omega)
  have hc := cta_some w B g n c g1 m c1 hn hm h h1
  have HC := hide hc
  clear hc
  go_enter Ybaf.func8, Ybaf.ntmps8
  go_wp2_with (go_at_call 14; refine HC.out.mono ?_; rintro e w' ⟨rfl, k, hw⟩; have h2' : w'.cell? ⟨g1, m, none⟩ = some (.slice (some ⟨g2, 0, none⟩) (p + 1) c2) := (by rw [hw]; exact h2); have HW := hide hw; clear hw)
  go_quiet (fail)
  go_wp2_with fail
  go_ret
  exact ⟨rfl, k + _, by rw [HW.out, World.drewN_drewN]⟩
end Go.Proofs.YbulkmvuFmt
