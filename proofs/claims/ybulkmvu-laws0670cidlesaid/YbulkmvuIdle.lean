/-
  'LawS0670CIdle' walked.
-/
import Derived.Test.YbulkmvuIdlePlain
namespace Go.Proofs.Ybulkmvu.Irmb
open Go.RowKit Go.Proofs.Ybulkmvu.Ev Go.Proofs.Ybulkmvu.Queue

theorem info59 : (Yba.prog.info? 59).map (fun i => (i.zero, i.size, i.bytes)) = some (some (.slice none 0 0), 1, 24) := by kernel_rfl

theorem rem3 (x : Int) (h0 : 0 ≤ x) : ∃ g : Nat, x.tmod 3 = g ∧ g < 3 := by
  rw [Int.tmod_eq_emod_of_nonneg h0]
  exact ⟨(x % 3).toNat, by omega, by omega⟩

theorem st_start {w w2 : World} {idle : Bool} {wb : Int} {o : Value} {z : List Value} {q : Nat} (ho : w2.ownsRow (w.heap.size + 1) 59 1 (.slice (some ⟨q, 0, none⟩) 3 3) 3 z) (hq : q = w.heap.size + 1)
    (hg : (w.alloc (.cells (irmbCells idle wb o) 58)).grownBy w2 none) : ∃ bc, St w (w2.setCell ⟨w.heap.size, 9, none⟩ (.slice (some ⟨w.heap.size + 1, 0, none⟩) 3 3)) idle wb bc := by
  subst hq
  rcases ho.2 with h | ⟨g, cap, cur, hv, hb, hh, hc, hm, hsz, ht⟩
  · simp at h
  · simp only [Value.slice.injEq, Option.some.injEq, Addr.mk.injEq] at hv
    obtain ⟨⟨rfl, -, -⟩, -, rfl⟩ := hv
    have hb : Below (w.heap.size + 1) (w.alloc (.cells (irmbCells idle wb o) 58)) w2 := ⟨hg.os, hg.tape, hg.output, by have := hg.size; simpa using this, fun k hk => hg.block k (by simpa using hk) (by simp)⟩
    have hbw : Below w.heap.size w w2 := ((Below.refl _ _).alloc (Nat.le_refl _) _).trans (hb.mono (by omega))
    have hB : w2.heap[w.heap.size]? = some (.cells (irmbCells idle wb o) 58 (0, 0)) := (hb.block _ (by omega)).trans (heap_alloc_new w _)
    refine ⟨cur, hbw.trans ⟨rfl, rfl, rfl, by simp [World.setCell], fun q hq => heap_setCell_other _ _ _ _ (by simp; omega)⟩, ?_, ?_, by simpa using hsz⟩
    · have := heap_setCell_same w2 w.heap.size 9 _ 58 (.slice (some ⟨w.heap.size + 1, 0, none⟩) 3 3) hB
      rw [this]; rfl
    · rw [heap_setCell_other _ _ _ _ (by simp), hh]

theorem OffsIn.below {w w' : World} {oa : Option Addr} {m : Nat} {sl : Nat → Option Addr} {ln cp : Nat → Nat} {os : Nat → Nat → Int} (h : OffsIn w oa m sl ln cp os) (hb : Below w.heap.size w w') : OffsIn w' oa m sl ln cp os := by
  obtain ⟨b, off, h1, h2⟩ := h
  refine ⟨b, off, fun h0 => ⟨(h1 h0).1, by have := (h1 h0).2; have := hb.size; omega⟩, fun j hj => ?_⟩
  obtain ⟨e1, e2, e3, e4⟩ := h2 j hj
  exact ⟨(hb.cell (h1 (by omega)).2).trans e1, e2, e3, e4.same (fun b _ hbl => ⟨trivial, hb.block b hbl⟩) hb.size⟩

theorem RowAt.below {k : IntKind} {w w' : World} {P : Nat → Prop} {a : Option Addr} {n : Nat} {z : Nat → Int} (h : RowAt k w P a n z) (hb : Below w.heap.size w w') : RowAt k w' P a n z :=
  h.same (fun b hp hbl => ⟨hp, hb.block b hbl⟩) hb.size

/-- The buffer of a GPU other than g. -/
theorem buf_one (w : World) (k : Nat) : BufAt ((w.alloc (.cells #[.int .u16 (k : Int)] 61)).alloc (.cells #[.int .u64 ((k : Int) + 100), .slice (some ⟨w.heap.size, 0, none⟩) 1 1] 63)) (fun b => w.heap.size ≤ b) (.slice (some ⟨w.heap.size + 1, 0, none⟩) 1 1) 1 1 (fun _ => (k : Int) + 100) (fun _ => 1) (fun _ _ => (k : Int)) := by
  have h1 := heap_alloc2_new w (.cells #[.int .u16 (k : Int)] 61) (.cells #[.int .u64 ((k : Int) + 100), .slice (some ⟨w.heap.size, 0, none⟩) 1 1] 63)
  have h0 : ((w.alloc (.cells #[.int .u16 (k : Int)] 61)).alloc (.cells #[.int .u64 ((k : Int) + 100), .slice (some ⟨w.heap.size, 0, none⟩) 1 1] 63)).heap[w.heap.size]? = some (.cells #[.int .u16 (k : Int)] 61 (0, 0)) := by rw [Below.heap_alloc _ _ _ (by simp)]; exact heap_alloc_new w _
  refine ⟨w.heap.size + 1, _, rfl, by omega, h1, by omega, rfl, fun i hi => ⟨some ⟨w.heap.size, 0, none⟩, 1, ?_, ?_, w.heap.size, 0, fun _ => ⟨rfl, ⟨by omega, by omega⟩, lt_of_block h0⟩, fun j hj => ?_⟩⟩
  · obtain rfl : i = 0 := by omega
    rfl
  · obtain rfl : i = 0 := by omega
    rfl
  · have hj' : j < 1 := hj
    obtain rfl : j = 0 := by omega
    rw [cell_of_row _ _ _ _ _ _ h0]; rfl

/-- 'zzs0670coffs' at any index. -/
theorem offs_at (w : World) (oa : Option Addr) (m co : Nat) (x : Int) (i L : Nat) (sl : Nat → Option Addr) (ln cp : Nat → Nat) (os : Nat → Nat → Int) (hx : x = i) (hm : m ≤ 1024) (hi : i ≤ 2000) (hL : L = if i < m then ln i else 0) (h : OffsIn w oa m sl ln cp os) :
    Calls Yba.prog 14 #[.slice oa m co, .int .i64 x] w fun e w' => ∃ a' c', e = .returned (.slice a' L c') ∧ w' = w ∧ RowAt .u16 w (fun _ => True) a' L (os i) := by
  subst hx
  by_cases hlt : i < m
  · obtain ⟨b, off, h1, h2⟩ := h
    obtain ⟨rfl, -⟩ := h1 (by omega)
    obtain ⟨e1, -, -, e4⟩ := h2 i hlt
    rw [if_pos hlt] at hL
    subst hL
    refine (offs_in w b off m co i _ hlt hm e1 ⟨_, _, _, rfl⟩).mono ?_
    rintro e w' ⟨rfl, rfl⟩
    exact ⟨_, _, rfl, rfl, e4⟩
  · rw [if_neg hlt] at hL
    subst hL
    refine (offs_out w oa m co i (by omega) hm hi).mono ?_
    rintro e w' ⟨rfl, rfl⟩
    exact ⟨none, 0, rfl, rfl, 0, 0, fun h => absurd h (by omega), fun j hj => absurd hj (by omega)⟩

/-- What is read for one entry. -/
theorem entry_facts {wp wr : World} {P : Nat → Prop} {eb : Nat} {cs : Array Value} {N d q n m : Nat} {bs : Nat → Int} {ln : Nat → Nat} {os : Nat → Nat → Int} {a0 : Option Addr} (hE : wp.heap[eb]? = some (.cells cs 63 (0, 0)))
    (hen : ∀ i, i < N → ∃ s k, cs[i * 2]? = some (.int .u64 (bs (i + d))) ∧ cs[i * 2 + 1]? = some (.slice s (if i + d < m then ln (i + d) else 0) k) ∧ RowAt .u16 wp P s (if i + d < m then ln (i + d) else 0) (os (i + d)))
    (hb : Below wp.heap.size wp wr) (h0 : RowAt .u64 wp (fun _ => True) a0 n bs) (hq : q < N) (hqd : q + d < n) :
    ∃ (L : Nat) (s : Option Addr) (c b off : Nat), L = (if q + d < m then ln (q + d) else 0) ∧ a0 = some ⟨b, off, none⟩ ∧ wr.cell? ⟨eb, q * 2, none⟩ = some (.int .u64 (bs (q + d))) ∧ wr.cell? ⟨eb, q * 2 + 1, none⟩ = some (.slice s L c) ∧ wr.cell? ⟨b, off + (q + d), none⟩ = some (.int .u64 (bs (q + d))) ∧ RowAt .u16 wr P s L (os (q + d)) := by
  obtain ⟨s, c, e1, e2, e3⟩ := hen q hq
  obtain ⟨b, off, h1, h2⟩ := h0
  obtain ⟨rfl, -, hbl⟩ := h1 (by omega)
  have hEr : wr.heap[eb]? = some (.cells cs 63 (0, 0)) := (hb.block _ (lt_of_block hE)).trans hE
  exact ⟨_, s, c, b, off, rfl, rfl, by rw [cell_of_row _ _ _ _ _ _ hEr]; exact e1, by rw [cell_of_row _ _ _ _ _ _ hEr]; exact e2, (hb.cell hbl).trans (h2 _ hqd), e3.below hb⟩

set_option maxRecDepth 100000 in
set_option maxHeartbeats 4000000 in
theorem main_any (w : World) (idle : Bool) (a0 oa : Option Addr) (n c0 m co : Nat) (sel wb : Int) (bs : Nat → Int) (sl : Nat → Option Addr) (ln cp : Nat → Nat) (os : Nat → Nat → Int) (hn : n ≤ 1024) (hm : m ≤ 1024) (hs0 : 0 ≤ sel) (hs1 : sel ≤ 255) (hw0 : -9223372036854775808 ≤ wb) (hw1 : wb ≤ 9223372036854775807)
    (h0 : RowAt .u64 w (fun _ => True) a0 n bs) (h1 : OffsIn w oa m sl ln cp os) :
    Calls Yba.prog 5 #[.bool idle, .slice a0 n c0, .slice oa m co, .int .u8 sel, .int .i64 wb] w fun e w' => e = .returned (.bool true) ∧ Below w.heap.size w w' := by
  obtain ⟨i59, hi, hz0, hz1, hz2⟩ := info_parts info59
  have H0 := hide h0
  have H1 := hide h1
  clear h0 h1
  go_enter Yba.func5, Yba.ntmps5
  go_wp2_with fail
  go_loopw [32] (fun jv wf => ∃ (k : Nat), jv = .int .i64 k ∧ k ≤ m ∧ w = wf) (fun jv _ => m - (intOf jv).toNat)
  case atStart => exact ⟨0, rfl, by omega, rfl⟩
  case round =>
    obtain ⟨k, rfl, hk, hwr⟩ := hrel
    subst hwr
    by_cases hlt : k < m
    · obtain ⟨b, off, ha, hc⟩ := H1.out
      obtain ⟨rfl, -⟩ := ha (by omega)
      obtain ⟨c1, -, c2, -⟩ := hc k hlt
      clear ha hc
      go_wp2_with fail
      go_roundw
      case rel => exact ⟨k + 1, by go_num, by omega, trivial⟩
      case measure => simp [intOf]; omega
    · obtain rfl : k = m := by omega
      clear hlt hk
      obtain ⟨g, hg, hg3⟩ := rem3 sel hs0
      go_wp2_with (first | (at_make; refine wpList_make_full _ rfl _ _ 56 rfl (w.heap.size + 1) 59 i59 _ 1 Yba.underlying56 hi hz0 hz1 _ _ _ _ 3 rfl rfl (by omega) (by omega) (by rw [hz2]; omega) (by unfold maxLen; omega) (by simp) ?_; intro w2 ho2 hg2; have HO2 := hide ho2; have HG2 := hide hg2; have q9 : w2.heap[w.heap.size]? = some (.cells (irmbCells idle wb (.slice none 0 0)) 58 (0, 0)) := (hg2.block _ (by simp) (by simp)).trans (heap_alloc_new w _); have q1 : w2.cell? ⟨w.heap.size, 9, none⟩ = some (.slice none 0 0) := (by rw [cell_of_row _ _ _ _ _ _ q9]; rfl); have q2 : w2.frozen? ⟨w.heap.size, 9, none⟩ = false := frozen_of_row _ _ _ _ _ q9; clear ho2 hg2 q9) | fail)
      obtain ⟨bc0, hst0⟩ := st_start HO2.out (by simp) HG2.out
      clear HO2 HG2 q1 q2
      generalize w2.setCell _ _ = wz at hst0
      have HST0 := hide hst0
      clear hst0
      go_loopw [14] (fun jv wr => ∃ (j : Nat) (bc : Array Value) (own : Nat → Nat), jv = .int .i64 j ∧ j ≤ 3 ∧ St w wr idle wb bc ∧ Bufs wr (w.heap.size + 2) own bc g n n bs (fun j => if j < k then ln j else 0) os j) (fun jv _ => 3 - (intOf jv).toNat)
      case atStart => exact ⟨0, bc0, fun _ => 0, rfl, by omega, HST0.out, fun j hj => absurd hj (by omega)⟩
      case round =>
        obtain ⟨j, bc, own, rfl, hj, hst, hbu⟩ := hrel
        have HST := hide hst
        have HBU := hide hbu
        obtain ⟨s1, s2, s3, s4⟩ := hst
        have HS1 := hide s1
        have hl2 := lt_of_block s2
        have hl3 := lt_of_block s3
        have c9 : wr.cell? ⟨w.heap.size, 9, none⟩ = some (.slice (some ⟨w.heap.size + 1, 0, none⟩) 3 3) := by rw [cell_of_row _ _ _ _ _ _ s2]; rfl
        have HS2 := hide s2
        have HS3 := hide s3
        have HS4 := hide s4
        clear hbu s1 s2 s3 s4 HST0
        by_cases hj3 : j < 3
        · have hji : (j : Int) < 3 := by omega
          obtain ⟨u0, hu0⟩ : ∃ u, bc[j]? = some u := ⟨_, Array.getElem?_eq_getElem (by rw [HS4.out]; exact hj3)⟩
          have cj : ∀ wx, Below wr.heap.size wr wx → wx.cell? ⟨w.heap.size + 1, j, none⟩ = some u0 ∧ wx.frozen? ⟨w.heap.size + 1, j, none⟩ = false := fun wx hx => by
            have := (hx.block _ hl3).trans HS3.out
            exact ⟨by rw [cell_of_row _ _ _ _ _ _ this]; exact hu0, frozen_of_row _ _ _ _ _ this⟩
          have HCJ := hide cj
          clear cj
          by_cases hjg : j = g
          · subst hjg
            have c9d : wr.drew.cell? ⟨w.heap.size, 9, none⟩ = some (.slice (some ⟨w.heap.size + 1, 0, none⟩) 3 3) := c9
            have hbd : Below w.heap.size w wr.drew := HS1.out.drew
            have HBD := hide hbd
            clear hbd
            go_wp2_with fail
            go_region_with (go_at_call 11; refine (build_any wr.drew a0 oa n c0 k co bs sl ln cp os hn hm (H0.out.below HBD.out) (H1.out.below HBD.out)).mono ?_; rintro e wx ⟨v, rfl, hbv, hbx⟩; have HBV := hide hbv; have HBX : Hid (Below wr.heap.size wr wx) := hide ((Below.refl _ _).drew.trans hbx); obtain ⟨eb, cs, rfl, -⟩ := hbv; have c9x : wx.cell? ⟨w.heap.size, 9, none⟩ = some (.slice (some ⟨w.heap.size + 1, 0, none⟩) 3 3) := (HBX.out.cell hl2).trans c9; have d1 := (HCJ.out wx HBX.out).1; have d2 := (HCJ.out wx HBX.out).2; clear hbx)
            all_goals (
              have hfin := buf_step hj3 HST.out HBU.out HBX.out (fun _ => HBV.out) (fun e => absurd rfl e)
              have HFIN := hide hfin
              clear hfin HBV HBX d1 d2
              go_wp2_with fail
              go_roundw
              case rel =>
                obtain ⟨bc', own', e1, e2⟩ := HFIN.out
                exact ⟨j + 1, bc', own', by go_num, by omega, e1, e2⟩
              case measure => simp [intOf]; omega)
          · have hjgi : ¬ (j : Int) = (g : Int) := by omega
            have k1 : ∀ o1 o2, ((wr.alloc o1).alloc o2).cell? ⟨w.heap.size + 1, j, none⟩ = some u0 := fun o1 o2 => (HCJ.out _ (((Below.refl _ _).alloc (Nat.le_refl _) _).alloc (by simp) _)).1
            have k2 : ∀ o1 o2, ((wr.alloc o1).alloc o2).frozen? ⟨w.heap.size + 1, j, none⟩ = false := fun o1 o2 => (HCJ.out _ (((Below.refl _ _).alloc (Nat.le_refl _) _).alloc (by simp) _)).2
            go_wp2_with fail
            go_roundw
            case rel =>
              obtain ⟨bc', own', e1, e2⟩ := buf_step (v := .slice (some ⟨wr.heap.size + 1, 0, none⟩) 1 1) hj3 HST.out HBU.out (((Below.refl _ _).alloc (Nat.le_refl _) _).alloc (by simp) _) (fun e => absurd e hjg) (fun _ => buf_one wr j)
              rw [World.setCell_alloc_past _ _ _ _ (by simp; omega), World.setCell_alloc_past _ _ _ _ hl3] at e1 e2
              exact ⟨j + 1, bc', own', by go_num, by omega, e1, e2⟩
            case measure => simp [intOf]; omega
        · obtain rfl : j = 3 := by omega
          clear hl2 hl3 c9 HS2 HS3 HS4 hj hj3
          have hln : ∀ i, (fun j => if j < k then ln j else 0) i ≤ 1024 := fun i => by
            show (if i < k then ln i else 0) ≤ 1024
            split
            · obtain ⟨_, _, _, h⟩ := H1.out
              exact (h i (by assumption)).2.2.1
            · omega
          have HLN := hide hln
          clear hln
          go_wp2_with fail
          refine (idle_step w wr idle wb bc own g n bs (fun j => if j < k then ln j else 0) os hn HLN.out hg3 HST.out HBU.out).mono ?_
          rintro e w3 ⟨ga, gl, d, wb', bc', rfl, st3, bu3, got⟩
          have HST3 := hide st3
          have HBU3 := hide bu3
          have HGOT := hide got
          clear st3 bu3 got HST HBU HS1
          go_wp2_with fail
          go_loopw [16] (fun jv wq => ∃ (j : Nat), jv = .int .i64 j ∧ j ≤ 3 ∧ Below w3.heap.size w3 wq) (fun jv _ => 3 - (intOf jv).toNat)
          case atStart => exact ⟨0, rfl, by omega, Below.refl _ _⟩
          case round =>
            obtain ⟨j, rfl, hj, hbe⟩ := hrel
            have hst := HST3.out.below hbe
            have hbu := HBU3.out.below hbe
            have HBE := hide hbe
            obtain ⟨s1, s2, s3, s4⟩ := hst
            have hl2 := lt_of_block s2
            have hl3 := lt_of_block s3
            have c9 : wr.cell? ⟨w.heap.size, 9, none⟩ = some (.slice (some ⟨w.heap.size + 1, 0, none⟩) 3 3) := by rw [cell_of_row _ _ _ _ _ _ s2]; rfl
            by_cases hj3 : j < 3
            · have hji : (j : Int) < 3 := by omega
              obtain ⟨v, hv, -, hvo⟩ := hbu j hj3
              have HS4 := hide s4
              by_cases hjg : j = g
              · subst hjg
                clear hbe s1 s2 s3 s4 hbu hl2 hl3 hvo
                go_wp2_with fail
                go_roundw
                case rel => exact ⟨j + 1, by go_num, by omega, HBE.out⟩
                case measure => simp [intOf]; omega
              · have hjgi : ¬ (j : Int) = (g : Int) := by omega
                obtain ⟨eb, cs, rfl, -, hE, -, hsz, hen⟩ := hvo hjg
                have cj : wr.cell? ⟨w.heap.size + 1, j, none⟩ = some (.slice (some ⟨eb, 0, none⟩) 1 1) := by rw [cell_of_row _ _ _ _ _ _ s3]; exact hv
                obtain ⟨s, c, e0, e1, er⟩ := hen 0 (by omega)
                have ce0 : wr.cell? ⟨eb, 0, none⟩ = some (.int .u64 ((j : Int) + 100)) := by rw [cell_of_row _ _ _ _ _ _ hE]; exact e0
                have ce1 : wr.cell? ⟨eb, 1, none⟩ = some (.slice s 1 c) := by rw [cell_of_row _ _ _ _ _ _ hE]; exact e1
                have HER := hide er
                clear hbe s1 s2 s3 s4 hbu hvo hE hen e0 e1 er hsz hv
                have hax : Below wr.heap.size wr (wr.alloc (.cells #[.int .u16 (j : Int)] 61)) := (Below.refl _ _).alloc (Nat.le_refl _) _
                have HAX := hide hax
                clear hax
                go_wp2_with fail
                refine (is_any (wr.alloc (.cells #[.int .u16 (j : Int)] 61)) _ (fun _ => True) ((j : Int) + 100) s (some ⟨wr.heap.size, 0, none⟩) 1 c 1 (fun _ => (j : Int)) (by omega) (HER.out.below HAX.out) ⟨wr.heap.size, 0, fun _ => ⟨rfl, trivial, lt_of_block (heap_alloc_new wr _)⟩, fun i hi => by
                  obtain rfl : i = 0 := by omega
                  rw [cell_of_row _ _ _ _ _ _ (heap_alloc_new wr _)]; rfl⟩).mono ?_
                rintro e wx ⟨rfl, hbx⟩
                have HBX : Hid (Below w3.heap.size w3 wx) := hide (HBE.out.trans ((HAX.out.trans (hbx.mono HAX.out.size)).mono HBE.out.size))
                clear hbx HAX HER ce0 ce1 cj c9
                go_wp2_with fail
                go_roundw
                case rel => exact ⟨j + 1, by go_num, by omega, HBX.out⟩
                case measure => simp [intOf]; omega
            · obtain rfl : j = 3 := by omega
              have b3 : wr.cell? ⟨w.heap.size, 3, none⟩ = some (.int .i64 0) := by rw [cell_of_row _ _ _ _ _ _ s2]; rfl
              have b4 : wr.cell? ⟨w.heap.size, 4, none⟩ = some (.int .i64 0) := by rw [cell_of_row _ _ _ _ _ _ s2]; rfl
              have b5 : wr.cell? ⟨w.heap.size, 5, none⟩ = some (.int .i64 0) := by rw [cell_of_row _ _ _ _ _ _ s2]; rfl
              have b6 : wr.cell? ⟨w.heap.size, 6, none⟩ = some (.int .i64 wb') := by rw [cell_of_row _ _ _ _ _ _ s2]; rfl
              have b7 : wr.cell? ⟨w.heap.size, 7, none⟩ = some (.int .i64 0) := by rw [cell_of_row _ _ _ _ _ _ s2]; rfl
              have b8 : wr.cell? ⟨w.heap.size, 8, none⟩ = some (.int .i64 0) := by rw [cell_of_row _ _ _ _ _ _ s2]; rfl
              obtain ⟨v, hv, hvg, -⟩ := hbu g hg3
              obtain ⟨eb, cs, rfl, -, hE, -, hsz, hen⟩ := hvg rfl
              have cg : wr.cell? ⟨w.heap.size + 1, g, none⟩ = some (.slice (some ⟨eb, 0, none⟩) (n - d) n) := by rw [cell_of_row _ _ _ _ _ _ s3]; exact hv
              have hgi : (g : Int) < 3 := by omega
              have HWR : Hid (Below w.heap.size w wr) := hide s1
              have HE := hide hE
              have HEN := hide hen
              generalize hwp : wr = wp at *
              have HR0 : Hid (RowAt .u64 wp (fun _ => True) a0 n bs) := hide (H0.out.below HWR.out)
              have HR1 : Hid (OffsIn wp oa k sl ln cp os) := hide (H1.out.below HWR.out)
              clear hwp s1 s2 s3 s4 hbe hbu hl2 hl3 hE hen hvg hv hj hj3 HST3 HBU3
              rcases HGOT.out with ⟨rfl, rfl, rfl, rfl, hno⟩ | ⟨rfl, rfl, hn0, hgl, hwb', grow⟩
              · rcases hno with rfl | rfl
                · go_wp2_with fail
                  clear b3 b4 b5 b6 b7 b8 cg c9
                  go_loopw [197] (fun jv wq => ∃ (q : Nat), jv = .int .i64 q ∧ q ≤ n ∧ Below wp.heap.size wp wq) (fun jv _ => n - (intOf jv).toNat)
                  case atStart => exact ⟨0, rfl, by omega, Below.refl _ _⟩
                  case round =>
                    obtain ⟨q, rfl, hq, hbq⟩ := hrel
                    have HBQ := hide hbq
                    clear hbq
                    by_cases hqn : q < n
                    · obtain ⟨L, s, c, b, off, hL, rfl, f1, f2, f3, f4⟩ := entry_facts (d := 0) (q := q) (wr := wr.drew) HE.out HEN.out HBQ.out.drew HR0.out hqn hqn
                      simp only [Nat.add_zero] at hL f1 f3 f4
                      have HF4 := hide f4
                      have HO : Hid (OffsIn wr.drew oa k sl ln cp os) := hide (HR1.out.below HBQ.out.drew)
                      have HL := hide hL
                      have HL2 : Hid (L ≤ 1024) := hide (by rw [hL]; exact HLN.out q)
                      clear hL f4
                      go_wp2_with fail
                      go_region_with (first
                        | (go_at_call 14; refine (offs_at wr.drew oa k co (q : Int) q L sl ln cp os rfl hm (by omega) HL.out HO.out).mono ?_; rintro e wx ⟨a', c', rfl, rfl, hra⟩; have HRA := hide hra; clear hra)
                        | (go_at_call 13; refine (is_any wr.drew _ _ (bs q) s _ L c _ (os q) HL2.out HF4.out HRA.out).mono ?_; rintro e wx ⟨rfl, hbx⟩; have HBX := hide hbx; clear hbx)
                        | fail)
                      all_goals (
                        have HBX2 : Hid (Below wp.heap.size wp wx) := hide (HBQ.out.trans (((Below.refl wr.heap.size wr).drew.trans HBX.out).mono HBQ.out.size))
                        clear HBX HRA HO HF4 f1 f2 f3
                        go_wp2_with fail
                        go_roundw
                        case rel => exact ⟨q + 1, by go_num, by omega, HBX2.out⟩
                        case measure => simp [intOf]; omega)
                    · go_wp2_with fail
                      go_ret
                      exact ⟨rfl, HWR.out.trans (HBQ.out.mono HWR.out.size)⟩
                · go_wp2_with fail
                  all_goals (
                    go_loopw [197] (fun jv wq => ∃ (q : Nat), jv = .int .i64 q ∧ q ≤ 0 ∧ Below wp.heap.size wp wq) (fun jv _ => 0 - (intOf jv).toNat)
                    case atStart => exact ⟨0, rfl, by omega, Below.refl _ _⟩
                    case round =>
                      obtain ⟨q, rfl, hq, hbq⟩ := hrel
                      obtain rfl : q = 0 := by omega
                      go_wp2_with fail
                      go_ret
                      exact ⟨rfl, HWR.out.trans (hbq.mono HWR.out.size)⟩)
              · obtain ⟨p, rfl⟩ : ∃ p, n = p + 1 := ⟨n - 1, by omega⟩
                rw [Nat.add_sub_cancel] at cg
                have hgl' : gl = if 0 < k then ln 0 else 0 := hgl
                have hgl2 : gl ≤ 1024 := by rw [hgl]; exact HLN.out 0
                rw [← hgl] at hwb'
                subst hwb'
                have HGL := hide hgl'
                have HGR := hide (grow.below HBE.out)
                clear hgl hgl' grow HBE
                go_wp2_with fail
                refine (offs_at wp oa k co 0 0 gl sl ln cp os rfl hm (by omega) HGL.out HR1.out).mono ?_
                rintro e wx ⟨a', c', rfl, hwx, hra⟩
                rw [hwx]
                clear hwx
                have HRA := hide hra
                clear hra
                go_wp2_with fail
                clear b3 b4 b5 b7 b8 cg
                go_loopw [223] (fun jv wq => ∃ (q : Nat), jv = .int .i64 q ∧ q ≤ gl ∧ Below wp.heap.size wp wq) (fun jv _ => gl - (intOf jv).toNat)
                case atStart => exact ⟨0, rfl, by omega, Below.refl _ _⟩
                case round =>
                  obtain ⟨q, rfl, hq, hbq⟩ := hrel
                  have HBQ := hide hbq
                  clear hbq
                  by_cases hqn : q < gl
                  · obtain ⟨b, off, ha, hc⟩ := HR0.out
                    obtain ⟨rfl, -, hbl⟩ := ha (by omega)
                    have f1 : wr.cell? ⟨b, off, none⟩ = some (.int .u64 (bs 0)) := (HBQ.out.cell hbl).trans (hc 0 (by omega))
                    obtain ⟨gb, goff, ha2, hc2⟩ := HGR.out
                    obtain ⟨rfl, -, hbl2⟩ := ha2 (by omega)
                    have f2 : wr.cell? ⟨gb, goff + q, none⟩ = some (.int .u64 (page (bs 0) (os 0 q))) := (HBQ.out.cell hbl2).trans (hc2 q hqn)
                    obtain ⟨ab, aoff, ha3, hc3⟩ := HRA.out
                    obtain ⟨rfl, -, hbl3⟩ := ha3 (by omega)
                    have f3 : wr.cell? ⟨ab, aoff + q, none⟩ = some (.int .u16 (os 0 q)) := (HBQ.out.cell hbl3).trans (hc3 q hqn)
                    unfold page at f2
                    clear ha hc hbl ha2 hc2 hbl2 ha3 hc3 hbl3
                    go_wp2_with fail
                    go_quiet (fail)
                    go_wp2_with fail
                    go_roundw
                    case rel => exact ⟨q + 1, by go_num, by omega, below_drewN HBQ.out _⟩
                    case measure => simp [intOf]; omega
                  · obtain rfl : q = gl := by omega
                    have g6 : wr.cell? ⟨w.heap.size, 6, none⟩ = some (.int .i64 (wrap64 (wb + q))) := (HBQ.out.cell (World.block_lt_of_cell? _ _ b6)).trans b6
                    clear b6 c9 HGR HRA
                    go_wp2_with fail
                    clear g6
                    go_loopw [21] (fun jv wq => ∃ (i : Nat), jv = .int .i64 i ∧ i ≤ p ∧ Below wp.heap.size wp wq) (fun jv _ => p - (intOf jv).toNat)
                    case atStart => exact ⟨0, rfl, by omega, HBQ.out⟩
                    case round =>
                      obtain ⟨i, rfl, hi', hbi⟩ := hrel
                      have HBI := hide hbi
                      clear hbi HBQ
                      by_cases hip : i < p
                      · obtain ⟨L, s, c, b, off, hL, rfl, f1, f2, f3, f4⟩ := entry_facts (d := 1) (q := i) (wr := wr.drew) HE.out HEN.out HBI.out.drew HR0.out (by omega) (by omega)
                        have HF4 := hide f4
                        have HO : Hid (OffsIn wr.drew oa k sl ln cp os) := hide (HR1.out.below HBI.out.drew)
                        have HL := hide hL
                        have HL2 : Hid (L ≤ 1024) := hide (by rw [hL]; exact HLN.out (i + 1))
                        clear hL f4
                        have hip1 : (i : Int) + 1 < (p : Int) + 1 := by omega
                        have hip2 : (0 : Int) ≤ (i : Int) + 1 := by omega
                        have hip3 : (i : Int) + 1 ≤ 2000 := by omega
                        have hip4 : (i : Int) < (p : Int) := by omega
                        have hip5 : IntKind.i64.wrap ((i : Int) + 1) = (i : Int) + 1 := IntWalk.i64_in _ (by omega)
                        go_wp2_with fail
                        go_region_with (first
                          | (go_at_call 14; refine (offs_at wr.drew oa k co ((i : Int) + 1) (i + 1) L sl ln cp os (by push_cast; rfl) hm (by omega) HL.out HO.out).mono ?_; rintro e wx ⟨a', c', rfl, rfl, hra⟩; have HRA := hide hra; clear hra)
                          | (go_at_call 13; refine (is_any wr.drew _ _ (bs (i + 1)) s _ L c _ (os (i + 1)) HL2.out HF4.out HRA.out).mono ?_; rintro e wx ⟨rfl, hbx⟩; have HBX := hide hbx; clear hbx)
                          | fail)
                        all_goals (
                          have HBX2 : Hid (Below wp.heap.size wp wx) := hide (HBI.out.trans (((Below.refl wr.heap.size wr).drew.trans HBX.out).mono HBI.out.size))
                          clear HBX HRA HO HF4 f1 f2 f3
                          go_wp2_with fail
                          go_roundw
                          case rel => exact ⟨i + 1, by go_num, by omega, HBX2.out⟩
                          case measure => simp [intOf]; omega)
                      · go_wp2_with fail
                        go_ret
                        exact ⟨rfl, HWR.out.trans (HBI.out.mono HWR.out.size)⟩
end Go.Proofs.Ybulkmvu.Irmb
