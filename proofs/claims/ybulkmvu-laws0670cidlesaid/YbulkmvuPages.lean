/-
  What '(*irmbEntry).pages' and '(*irmb).giveUp' answer.
-/
import Derived.Test.YbulkmvuBuild
namespace Go.Proofs.Ybulkmvu.Irmb
open Go.RowKit Go.Proofs.Ybulkmvu.Ev Go.Proofs.Ybulkmvu.Queue

theorem info25 : (Yba.prog.info? 25).map (fun i => (i.zero, i.size, i.bytes)) = some (some (.int .u64 0), 1, 8) := by kernel_rfl

/-- The page of a base and an offset. -/
def page (base o : Int) : Int := bits BinOp.or IntKind.u64 (IntKind.u64.wrap (base * 512)) (IntKind.u64.wrap o)

/-- Midway: k pages written. -/
def PMid (w wr : World) (n k : Nat) (f : Nat → Int) : Prop :=
  ∃ cs, wr.heap[w.heap.size]? = some (.cells cs 25 (0, 0)) ∧ cs.size = n ∧ Below w.heap.size w wr ∧ ∀ i, i < k → cs[i]? = some (.int .u64 (f i))

theorem pmid_start {w w2 : World} {n : Nat} {f : Nat → Int} {z : List Value} (ho : w2.ownsRow w.heap.size 25 1 (.slice (some ⟨w.heap.size, 0, none⟩) n n) n z) (hg : w.grownBy w2 none) : PMid w w2 n 0 f := by
  rcases ho.2 with h | ⟨g, cap, cur, hv, hb, hh, hc, hm, hsz, ht⟩
  · simp at h
  · simp only [Value.slice.injEq, Option.some.injEq, Addr.mk.injEq] at hv
    obtain ⟨⟨rfl, -, -⟩, -, rfl⟩ := hv
    exact ⟨cur, hh, by simpa using hsz, ⟨hg.os, hg.tape, hg.output, hg.size, fun k hk => hg.block k hk (by simp)⟩, fun i hi => absurd hi (by omega)⟩

theorem pmid_step {w wr : World} {n k : Nat} {f : Nat → Int} (h : PMid w wr n k f) (hk : k < n) : PMid w (wr.setCell ⟨w.heap.size, k, none⟩ (.int .u64 (f k))) n (k + 1) f := by
  obtain ⟨cs, h1, h2, h3, h4⟩ := h
  refine ⟨_, heap_setCell_same wr _ k cs 25 _ h1, by simp [h2], h3.trans ⟨rfl, rfl, rfl, by simp [World.setCell], fun q hq => heap_setCell_other _ _ _ _ (by simp; omega)⟩, fun i hi => ?_⟩
  by_cases hik : i = k
  · subst hik; simp [h2, hk]
  · rw [Array.getElem?_setIfInBounds, if_neg (by omega)]; exact h4 i (by omega)

set_option maxRecDepth 100000 in
set_option maxHeartbeats 1000000 in
theorem pages_any (w : World) (E : Nat) (base : Int) (s : Option Addr) (n c : Nat) (z : Nat → Int) (P : Nat → Prop) (hn : n ≤ 1024) (h0 : w.cell? ⟨E, 0, none⟩ = some (.int .u64 base)) (h1 : w.cell? ⟨E, 1, none⟩ = some (.slice s n c)) (hr : RowAt .u16 w P s n z) :
    Calls Yba.prog 19 #[.pointer (some ⟨E, 0, none⟩)] w fun e w' => e = .returned (.slice (some ⟨w.heap.size, 0, none⟩) n n) ∧ Below w.heap.size w w' ∧ RowAt .u64 w' (fun b => b = w.heap.size) (some ⟨w.heap.size, 0, none⟩) n (fun j => page base (z j)) := by
  obtain ⟨i25, hi, hz0, hz1, hz2⟩ := info_parts info25
  have H0 := hide h0
  have H1 := hide h1
  have HR := hide hr
  clear hr
  go_enter Yba.func19, Yba.ntmps19
  go_wp2_with (at_make; refine wpList_make_full _ rfl _ _ 50 rfl w.heap.size 25 i25 _ 1 Yba.underlying50 hi hz0 hz1 _ _ _ _ n rfl rfl (by omega) (by omega) (by rw [hz2]; omega) (by unfold maxLen; omega) (Nat.le_refl _) ?_; intro w2 ho2 hg2; have HO2 := hide ho2; have HG2 := hide hg2; have h1' : w2.cell? ⟨E, 1, none⟩ = some (.slice s n c) := (World.cell?_of_block (w := w) (hg2.block E (World.block_lt_of_cell? _ _ H1.out) (by simp))).trans H1.out; clear ho2 hg2)
  go_loopw [17] (fun jv wr => ∃ (k : Nat), jv = .int .i64 k ∧ k ≤ n ∧ PMid w wr n k (fun j => page base (z j))) (fun jv _ => n - (intOf jv).toNat)
  case atStart => exact ⟨0, rfl, by omega, pmid_start HO2.out HG2.out⟩
  case round =>
    obtain ⟨k, rfl, hk, hmid⟩ := hrel
    have HMD := hide hmid
    obtain ⟨cs, m1, m2, m3, m4⟩ := hmid
    have e0 : wr.cell? ⟨E, 0, none⟩ = some (.int .u64 base) := (m3.cell (World.block_lt_of_cell? _ _ H0.out)).trans H0.out
    have e1 : wr.cell? ⟨E, 1, none⟩ = some (.slice s n c) := (m3.cell (World.block_lt_of_cell? _ _ H1.out)).trans H1.out
    by_cases hlt : k < n
    · obtain ⟨b, off, ha, hc⟩ := HR.out
      obtain ⟨rfl, -, hbl⟩ := ha (by omega)
      have c0 : wr.cell? ⟨b, off + k, none⟩ = some (.int .u16 (z k)) := (m3.cell hbl).trans (hc k hlt)
      obtain ⟨u, d0⟩ : ∃ u, wr.cell? ⟨w.heap.size, k, none⟩ = some u := ⟨_, by rw [cell_of_row _ _ _ _ _ _ m1, Array.getElem?_eq_getElem (by omega)]⟩
      have d1 : wr.frozen? ⟨w.heap.size, k, none⟩ = false := frozen_of_row _ _ _ _ _ m1
      have HS := hide (pmid_step (f := fun j => page base (z j)) HMD.out hlt)
      clear ha hc hbl m1 m2 m3 m4
      go_wp2_with fail
      go_roundw
      case rel => exact ⟨k + 1, by go_num, by omega, HS.out⟩
      case measure => simp [intOf]; omega
    · have hl := lt_of_block m1
      obtain rfl : k = n := by omega
      clear HMD h1' HO2 HG2
      have HF : Hid (Below w.heap.size w wr ∧ RowAt .u64 wr (fun b => b = w.heap.size) (some ⟨w.heap.size, 0, none⟩) k (fun j => page base (z j))) := hide ⟨m3, w.heap.size, 0, fun _ => ⟨rfl, rfl, hl⟩, fun j hj => by rw [Nat.zero_add, cell_of_row _ _ _ _ _ _ m1]; exact m4 j hj⟩
      clear m1 m2 m3 m4 HR
      go_wp2_with fail
      go_ret
      exact ⟨rfl, HF.out⟩

/-- The irmb's cells. -/
def irmbCells (idle : Bool) (wb : Int) (buf : Value) : Array Value := #[.int .i64 4, .int .i64 4, .bool idle, .int .i64 0, .int .i64 0, .int .i64 0, .int .i64 wb, .int .i64 0, .int .i64 0, buf]

set_option maxRecDepth 100000 in
set_option maxHeartbeats 1000000 in
theorem giveUp_any (w : World) (B E : Nat) (idle : Bool) (wb : Int) (buf : Value) (base : Int) (s : Option Addr) (n c : Nat) (z : Nat → Int) (P : Nat → Prop) (hn : n ≤ 1024) (hB : w.heap[B]? = some (.cells (irmbCells idle wb buf) 58 (0, 0))) (h0 : w.cell? ⟨E, 0, none⟩ = some (.int .u64 base)) (h1 : w.cell? ⟨E, 1, none⟩ = some (.slice s n c)) (hr : RowAt .u16 w P s n z) :
    Calls Yba.prog 18 #[.pointer (some ⟨B, 0, none⟩), .pointer (some ⟨E, 0, none⟩)] w fun e w' => ∃ v w2, e = .returned v ∧ v = .slice (some ⟨w.heap.size, 0, none⟩) n n ∧ Below w.heap.size w w2 ∧ RowAt .u64 w2 (fun b => b = w.heap.size) (some ⟨w.heap.size, 0, none⟩) n (fun j => page base (z j)) ∧ w' = w2.setCell ⟨B, 6, none⟩ (.int .i64 (wrap64 (wb + n))) := by
  have HB := hide hB
  have hb : B < w.heap.size := lt_of_block hB
  clear hB
  go_enter Yba.func18, Yba.ntmps18
  go_wp2_with fail
  refine (pages_any w E base s n c z P hn h0 h1 hr).mono ?_
  rintro e w2 ⟨rfl, hb2, hr2⟩
  have hB2 : w2.heap[B]? = some (.cells (irmbCells idle wb buf) 58 (0, 0)) := (hb2.block B hb).trans HB.out
  have c6 : w2.cell? ⟨B, 6, none⟩ = some (.int .i64 wb) := by rw [cell_of_row _ _ _ _ _ _ hB2]; rfl
  have f6 : w2.frozen? ⟨B, 6, none⟩ = false := frozen_of_row _ _ _ _ _ hB2
  have H2 := hide hb2
  have HR2 := hide hr2
  clear hb2 hr2 hB2 hr h0 h1
  go_wp2_with fail
  go_ret
  exact ⟨_, w2, rfl, rfl, H2.out, HR2.out, rfl⟩
end Go.Proofs.Ybulkmvu.Irmb
