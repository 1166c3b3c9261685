/-
  What '(*irmb).takeOldest' and '(*irmb).Idle' do.
-/
import Derived.Test.YbulkmvuRemove
namespace Go.Proofs.Ybulkmvu.Irmb
open Go.RowKit Go.Proofs.Ybulkmvu.Ev Go.Proofs.Ybulkmvu.Queue

/-- Behind 'takeOldest'. -/
def OL (w : World) (B BB eb g n c : Nat) (idle : Bool) (wb : Int) (bc cs : Array Value) (l : Nat) (b0 : Int) (z : Nat → Int) (v : Value) (w' : World) : Prop :=
  w'.os = w.os ∧ w'.tape = w.tape ∧ w'.output = w.output ∧ w.heap.size ≤ w'.heap.size ∧ (∀ q, q < w.heap.size → q ≠ B → q ≠ BB → q ≠ eb → w'.heap[q]? = w.heap[q]?) ∧
    w'.heap[B]? = some (.cells (irmbCells idle (wrap64 (wb + l)) (.slice (some ⟨BB, 0, none⟩) 3 3)) 58 (0, 0)) ∧
    w'.heap[BB]? = some (.cells (bc.setIfInBounds g (.slice (some ⟨eb, 0, none⟩) n c)) 59 (0, 0)) ∧
    (∃ cs', w'.heap[eb]? = some (.cells cs' 63 (0, 0)) ∧ cs'.size = cs.size ∧ ∀ j, j < n * 2 → cs'[j]? = cs[j + 2]?) ∧
    ∃ x, v = .slice (some ⟨x, 0, none⟩) l l ∧ RowAt .u64 w' (fun b => w.heap.size ≤ b) (some ⟨x, 0, none⟩) l (fun j => page b0 (z j))

theorem ol_of {w w1 w2 w3 : World} {B BB eb g n c : Nat} {idle : Bool} {wb : Int} {bc cs : Array Value} {l : Nat} {b0 : Int} {z : Nat → Int} {o : Obj}
    (hB : w.heap[B]? = some (.cells (irmbCells idle wb (.slice (some ⟨BB, 0, none⟩) 3 3)) 58 (0, 0))) (h1 : B ≠ BB) (h2 : B ≠ eb) (hBl : BB < w.heap.size) (hEl : eb < w.heap.size)
    (hr : RM w BB eb g n c bc cs w1) (e2 : w2 = w1.alloc o) (hb : Below w2.heap.size w2 w3) (hrow : RowAt .u64 w3 (fun b => b = w2.heap.size) (some ⟨w2.heap.size, 0, none⟩) l (fun j => page b0 (z j))) :
    OL w B BB eb g n c idle wb bc cs l b0 z (.slice (some ⟨w2.heap.size, 0, none⟩) l l) (w3.setCell ⟨B, 6, none⟩ (.int .i64 (wrap64 (wb + l)))) := by
  obtain ⟨r1, r2, r3, r4, r5, r6, cs2, r7, r8, r9⟩ := hr
  have hl := lt_of_block hB
  have hb12 : Below w1.heap.size w1 w2 := by rw [e2]; exact (Below.refl _ _).alloc (Nat.le_refl _) _
  have hb13 : Below w1.heap.size w1 w3 := hb12.trans (hb.mono hb12.size)
  have hs := hb13.size
  have hs2 := hb12.size
  have hB3 : w3.heap[B]? = some (.cells (irmbCells idle wb (.slice (some ⟨BB, 0, none⟩) 3 3)) 58 (0, 0)) := by rw [hb13.block B (by omega), r5 B hl h1 h2, hB]
  have hot : ∀ q, q ≠ B → (w3.setCell ⟨B, 6, none⟩ (.int .i64 (wrap64 (wb + l)))).heap[q]? = w3.heap[q]? := fun q hq => heap_setCell_other _ _ _ _ (by simpa using hq)
  refine ⟨hb13.os.trans r1, hb13.tape.trans r2, hb13.output.trans r3, ?_, fun q hq h3 h4 h5 => ?_, ?_, ?_, ⟨cs2, ?_, r8, r9⟩, _, rfl, ?_⟩
  · simp only [World.setCell, Array.size_modify]; omega
  · rw [hot q h3, hb13.block q (by omega), r5 q hq h4 h5]
  · have := heap_setCell_same w3 B 6 _ 58 (.int .i64 (wrap64 (wb + l))) hB3
    rw [this]; rfl
  · rw [hot BB (fun h => h1 h.symm), hb13.block BB (by omega), r6]
  · rw [hot eb (fun h => h2 h.symm), hb13.block eb (by omega), r7]
  · refine hrow.same (fun b hb' hbl => ⟨by omega, hot b (by omega)⟩) (by simp [World.setCell])

set_option maxRecDepth 100000 in
set_option maxHeartbeats 1000000 in
theorem oldest_any (w : World) (B BB eb g n c : Nat) (idle : Bool) (wb : Int) (bc cs : Array Value) (b0 : Int) (s : Option Addr) (l k : Nat) (z : Nat → Int) (hn : n ≤ 1024) (hl : l ≤ 1024) (hg : g < 3)
    (hB : w.heap[B]? = some (.cells (irmbCells idle wb (.slice (some ⟨BB, 0, none⟩) 3 3)) 58 (0, 0))) (hBB : w.heap[BB]? = some (.cells bc 59 (0, 0))) (hbc : bc.size = 3) (hbg : bc[g]? = some (.slice (some ⟨eb, 0, none⟩) (n + 1) c))
    (hE : w.heap[eb]? = some (.cells cs 63 (0, 0))) (hsz : cs.size = c * 2) (hnc : n + 1 ≤ c) (h1 : B ≠ BB) (h2 : B ≠ eb) (h3 : BB ≠ eb) (e0 : cs[0]? = some (.int .u64 b0)) (e1 : cs[1]? = some (.slice s l k)) (hone : ∀ v, v ∈ (cs.toList.drop 2).take (n * 2) → v.oneCell' = true)
    (hrow : RowAt .u16 w (fun b => b ≠ BB ∧ b ≠ eb) s l z) :
    Calls Yba.prog 16 #[.pointer (some ⟨B, 0, none⟩), .int .i64 g] w fun e w' => ∃ v, e = .returned v ∧ OL w B BB eb g n c idle wb bc cs l b0 z v w' := by
  have HC := hide (remove_any w B BB eb g n c idle wb bc cs b0 s l k hn hg hB hBB hbc hbg hE hsz hnc h1 h2 h3 e0 e1 hone)
  have HB := hide hB
  have hBl := lt_of_block hBB
  have hEl := lt_of_block hE
  have hBb := lt_of_block hB
  have HR := hide hrow
  clear hB hBB hbg hE hsz hnc hone hrow e0 e1
  go_enter Yba.func16, Yba.ntmps16
  go_wp2_with fail
  refine HC.out.mono ?_
  rintro e w1 ⟨rfl, hrm⟩
  have HRM := hide hrm
  clear hrm HC
  go_wp2_with fail
  generalize hw2 : w1.alloc _ = w2
  have hx : w2.heap[w1.heap.size]? = some (.cells #[.int .u64 b0, .slice s l k] 63 (0, 0)) := by rw [← hw2]; exact heap_alloc_new w1 _
  have hb12 : Below w1.heap.size w1 w2 := by rw [← hw2]; exact (Below.refl _ _).alloc (Nat.le_refl _) _
  obtain ⟨r1, r2, r3, r4, r5, r6, cs2, r7, r8, r9⟩ := HRM.out
  refine (giveUp_any w2 B w1.heap.size idle wb (.slice (some ⟨BB, 0, none⟩) 3 3) b0 s l k z (fun _ => True) hl ((hb12.block B (by omega)).trans ((r5 B hBb h1 h2).trans HB.out)) (by rw [cell_of_row _ _ _ _ _ _ hx]; rfl) (by rw [cell_of_row _ _ _ _ _ _ hx]; rfl)
    (HR.out.same (fun b hb hbl => ⟨trivial, (hb12.block b (by omega)).trans (r5 b hbl hb.1 hb.2)⟩) (by have := hb12.size; omega))).mono ?_
  rintro e w' ⟨v, w3, rfl, rfl, hb3, hr3, rfl⟩
  have HO := hide (ol_of HB.out h1 h2 hBl hEl HRM.out hw2.symm hb3 hr3)
  clear r1 r2 r3 r4 r5 r6 r7 r8 r9 hb3 hr3 hb12 hx hw2
  go_wp2_with fail
  go_ret
  exact ⟨_, rfl, HO.out⟩

set_option maxRecDepth 100000 in
set_option maxHeartbeats 1000000 in
/-- 'Idle' that gives nothing up. -/
theorem idle_no (w : World) (B BB g n c : Nat) (idle : Bool) (wb : Int) (bc : Array Value) (a : Option Addr) (hn : n ≤ 1024) (hg : g < 3) (hno : idle = false ∨ n = 0)
    (hB : w.heap[B]? = some (.cells (irmbCells idle wb (.slice (some ⟨BB, 0, none⟩) 3 3)) 58 (0, 0))) (hBB : w.heap[BB]? = some (.cells bc 59 (0, 0))) (_hbc : bc.size = 3) (hbg : bc[g]? = some (.slice a n c)) :
    Calls Yba.prog 12 #[.pointer (some ⟨B, 0, none⟩), .int .i64 g] w fun e w' => e = .returned (.slice none 0 0) ∧ w' = w := by
  have c0 : w.cell? ⟨B, 9, none⟩ = some (.slice (some ⟨BB, 0, none⟩) 3 3) := by rw [cell_of_row _ _ _ _ _ _ hB]; rfl
  have c1 : w.cell? ⟨BB, g, none⟩ = some (.slice a n c) := by rw [cell_of_row _ _ _ _ _ _ hBB]; exact hbg
  have c2 : w.cell? ⟨B, 2, none⟩ = some (.bool idle) := by rw [cell_of_row _ _ _ _ _ _ hB]; rfl
  clear hB hBB
  have hgi : (g : Int) < 3 := by omega
  cases idle with
  | false =>
    go_enter Yba.func12, Yba.ntmps12
    go_wp2_with fail
    go_ret
    exact ⟨rfl, rfl⟩
  | true =>
    obtain rfl : n = 0 := by simpa using hno
    go_enter Yba.func12, Yba.ntmps12
    go_wp2_with fail
    go_ret
    exact ⟨rfl, rfl⟩

set_option maxRecDepth 100000 in
set_option maxHeartbeats 1000000 in
theorem idle_yes (w : World) (B BB eb g n c : Nat) (wb : Int) (bc cs : Array Value) (b0 : Int) (s : Option Addr) (l k : Nat) (z : Nat → Int) (hn : n ≤ 1024) (hl : l ≤ 1024) (hg : g < 3)
    (hB : w.heap[B]? = some (.cells (irmbCells true wb (.slice (some ⟨BB, 0, none⟩) 3 3)) 58 (0, 0))) (hBB : w.heap[BB]? = some (.cells bc 59 (0, 0))) (hbc : bc.size = 3) (hbg : bc[g]? = some (.slice (some ⟨eb, 0, none⟩) (n + 1) c))
    (hE : w.heap[eb]? = some (.cells cs 63 (0, 0))) (hsz : cs.size = c * 2) (hnc : n + 1 ≤ c) (h1 : B ≠ BB) (h2 : B ≠ eb) (h3 : BB ≠ eb) (e0 : cs[0]? = some (.int .u64 b0)) (e1 : cs[1]? = some (.slice s l k)) (hone : ∀ v, v ∈ (cs.toList.drop 2).take (n * 2) → v.oneCell' = true)
    (hrow : RowAt .u16 w (fun b => b ≠ BB ∧ b ≠ eb) s l z) :
    Calls Yba.prog 12 #[.pointer (some ⟨B, 0, none⟩), .int .i64 g] w fun e w' => ∃ v, e = .returned v ∧ OL w B BB eb g n c true wb bc cs l b0 z v w' := by
  have HC := hide (oldest_any w B BB eb g n c true wb bc cs b0 s l k z hn hl hg hB hBB hbc hbg hE hsz hnc h1 h2 h3 e0 e1 hone hrow)
  have c0 : w.cell? ⟨B, 9, none⟩ = some (.slice (some ⟨BB, 0, none⟩) 3 3) := by rw [cell_of_row _ _ _ _ _ _ hB]; rfl
  have c1 : w.cell? ⟨BB, g, none⟩ = some (.slice (some ⟨eb, 0, none⟩) (n + 1) c) := by rw [cell_of_row _ _ _ _ _ _ hBB]; exact hbg
  have c2 : w.cell? ⟨B, 2, none⟩ = some (.bool true) := by rw [cell_of_row _ _ _ _ _ _ hB]; rfl
  clear hB hBB hbg hE hsz hnc hone hrow e0 e1
  have hgi : (g : Int) < 3 := by omega
  have hn0 : ((n : Int) + 1) ≠ 0 := by omega
  go_enter Yba.func12, Yba.ntmps12
  go_wp2_with fail
  refine HC.out.mono ?_
  rintro e w' ⟨v, rfl, ho⟩
  have HO := hide ho
  obtain ⟨_, _, _, _, _, _, _, _, x, rfl, _⟩ := ho
  clear HC
  go_wp2_with fail
  go_ret
  exact ⟨_, rfl, HO.out⟩
end Go.Proofs.Ybulkmvu.Irmb
