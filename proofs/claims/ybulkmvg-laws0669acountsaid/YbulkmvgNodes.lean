/-
  'nodesOf': what it counts, said of a condition tree that lies in memory.
-/
import Derived.Test.YbulkmvgProg
import Derived.WalkKit
import Derived.WalkSpells
import Derived.WalkLawsBesides
namespace Go.Proofs.Ybulkmvg.Nodes
open Go.RowKit

/-- A condition of n nodes lies in w: its own value 'v'; its children, each of three cells, in one row. 'd' bounds its depth. -/
def TreeAt (w : World) : Nat → Value → Nat → Prop
  | 0, _, _ => False
  | d + 1, v, n => ∃ (s : ByteArray) (k : Int) (ao : Option Addr) (len cap : Nat) (ns : List Nat),
      v = .agg #[.string s, .int .i64 k, .slice ao len cap] ∧ ns.length = len ∧ len ≤ 1000000 ∧ n = 1 + ns.sum ∧
      (0 < len → ∃ b, ao = some ⟨b, 0, none⟩ ∧ ∀ i, i < len → ∃ (s' : ByteArray) (k' : Int) (ao' : Option Addr) (len' cap' : Nat),
        w.cell? ⟨b, i * 3, none⟩ = some (.string s') ∧ w.cell? ⟨b, i * 3 + 1, none⟩ = some (.int .i64 k') ∧ w.cell? ⟨b, i * 3 + 2, none⟩ = some (.slice ao' len' cap') ∧
        TreeAt w d (.agg #[.string s', .int .i64 k', .slice ao' len' cap']) (ns.getD i 0))

/-- It lies wherever the cells that are there lie. -/
theorem TreeAt.later {w w' : World} (h : ∀ a v, w.cell? a = some v → w'.cell? a = some v) : ∀ (d : Nat) (v : Value) (n : Nat), TreeAt w d v n → TreeAt w' d v n := by
  intro d
  induction d with
  | zero => intro v n hh; exact hh
  | succ d ih =>
    intro v n hh
    obtain ⟨s, k, ao, len, cap, ns, hv, hl, hm, hn, hk⟩ := hh
    refine ⟨s, k, ao, len, cap, ns, hv, hl, hm, hn, fun h0 => ?_⟩
    obtain ⟨b, hb, hi⟩ := hk h0
    refine ⟨b, hb, fun i hlt => ?_⟩
    obtain ⟨s', k', ao', len', cap', h1, h2, h3, h4⟩ := hi i hlt
    exact ⟨s', k', ao', len', cap', h _ _ h1, h _ _ h2, h _ _ h3, ih _ _ h4⟩

theorem cells_later {w w' : World} (hb : Below w.heap.size w w') : ∀ a v, w.cell? a = some v → w'.cell? a = some v :=
  fun a _ h => (hb.cell (World.block_lt_of_cell? w a h)).trans h

theorem sum_take_succ (ns : List Nat) (k : Nat) (h : k < ns.length) : (ns.take (k + 1)).sum = (ns.take k).sum + ns.getD k 0 := by
  rw [List.take_succ_eq_append_getElem h, List.sum_append, List.getD_eq_getElem?_getD, List.getElem?_eq_getElem h]
  simp

theorem sum_take_le (ns : List Nat) (k : Nat) : (ns.take k).sum ≤ ns.sum := by
  have := List.take_append_drop k ns
  have h2 : (ns.take k ++ ns.drop k).sum = ns.sum := by rw [this]
  rw [List.sum_append] at h2
  omega

theorem getD_le (ns : List Nat) (k : Nat) (h : k < ns.length) : ns.getD k 0 ≤ ns.sum := by
  have h1 := sum_take_succ ns k h
  have h2 := sum_take_le ns (k + 1)
  omega

set_option maxHeartbeats 400000 in
theorem nodes_any (d : Nat) : ∀ (v : Value) (n : Nat) (w : World), TreeAt w d v n → n ≤ 1000000 →
    Calls Yba.prog 7 #[v] w fun e w' => e = .returned (.int .i64 n) ∧ Below w.heap.size w w' := by
  induction d with
  | zero => intro v n w h _; exact h.elim
  | succ d ih =>
    intro v n w h hn
    obtain ⟨s, k, ao, len, cap, ns, rfl, rfl, hlen, rfl, hk⟩ := h
    have IH : Hid _ := ih
    clear ih
    have HK : Hid _ := hk
    clear hk
    go_enter Yba.func7, Yba.ntmps7
    go_wp2_with fail
    go_loopw [3, 9] (fun m i wr => ∃ j : Nat, j ≤ ns.length ∧ i = .int .i64 j ∧ m = .int .i64 ((1 + (ns.take j).sum : Nat) : Int) ∧ Below (w.heap.size + 1) (w.alloc (.cells #[.string s, .int .i64 k, .slice ao ns.length cap] 27)) wr)
      (fun _ i _ => ns.length - (intOf i).toNat)
    case atStart => exact ⟨0, Nat.zero_le _, rfl, rfl, Below.refl _ _⟩
    case round =>
      obtain ⟨j, hj, rfl, rfl, hb⟩ := hrel
      by_cases hlt : j < ns.length
      · obtain ⟨b, rfl, hall⟩ := HK.out (by omega)
        obtain ⟨s', k', ao', len', cap', c0, c1, c2, ht⟩ := hall j hlt
        have hbl : Below w.heap.size w wr := ((Below.refl _ _).alloc (Nat.le_refl _) _).trans (hb.mono (by omega))
        have d0 := cells_later hbl _ _ c0
        have d1 := cells_later hbl _ _ c1
        have d2 := cells_later hbl _ _ c2
        clear c0 c1 c2
        have hg := getD_le ns j hlt
        have hs := sum_take_succ ns j hlt
        have HS : Hid _ := hs
        clear hs
        have hsl := sum_take_le ns j
        have hsl2 : (ns.take j).sum + ns.getD j 0 ≤ ns.sum := by rw [← HS.out]; exact sum_take_le ns (j + 1)
        have HT : Hid _ := ht
        clear ht hall HK
        generalize hgd : ns.getD j 0 = g at *
        clear hgd
        generalize hgs : (ns.take j).sum = t at *
        have HGS : Hid _ := hgs
        clear hgs
        go_wp2_with fail
        refine (IH.out _ _ _ (TreeAt.later ?_ _ _ _ HT.out) (by omega)).mono ?_
        · intro a v h
          exact cells_later ((Below.refl _ _).alloc (Nat.le_refl _) _) _ _ (cells_later hbl _ _ h)
        rintro e w1 ⟨rfl, hb1⟩
        go_wp2_with fail
        go_roundw
        case rel => exact ⟨j + 1, by omega, by go_num, by rw [HS.out]; go_num, hb.trans (((Below.refl _ _).alloc (by have := hb.size; simp at this; omega) _).trans (hb1.mono (by have := hb.size; simp at this; simp; omega)))⟩
        case measure => simp [intOf]; omega
      · go_wp2_with fail
        go_ret
        have : j = ns.length := by omega
        subst this
        exact ⟨by simp, ((Below.refl _ _).alloc (Nat.le_refl _) _).trans (hb.mono (by omega))⟩

end Go.Proofs.Ybulkmvg.Nodes
