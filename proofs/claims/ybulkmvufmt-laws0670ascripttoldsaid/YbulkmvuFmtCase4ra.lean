/-
  The round of 'LawS0670AScript': an r line before any kernel.
-/
import Derived.Test.YbulkmvuFmtFields
namespace Go.Proofs.YbulkmvuFmt
open Go.RowKit Go.Extern.Stop Go.Stop Go.Extern
set_option linter.unusedVariables false

set_option maxHeartbeats 4000000 in
set_option maxRecDepth 1000000 in
theorem case4_r_none (F : Interp) (a0 : Option Addr) (n c k b off : Nat) (u : Nat → Value) (w wr : World) (s : St3) (own : Nat → List Nat) (V : List Nat → Value) (C : List Nat → Nat) (X : List Nat → List Value) (nk : Nat) (nc : Nat → Nat) (nw : Nat → Nat → Nat) (ni : Nat → Nat → Nat → Nat) (nm : Nat → ByteArray) (na : Nat) (K : Act → World → Prop) (Q : Exit → Act → World → Prop) (h : In F a0 n c k b off u w wr s own V C X nk nc nw ni nm na) (hop : (s.op : Int).tmod 7 = 4) (hkw : ¬ (128 : Int) ≤ (s.n : Int)) (hnk : nk = 0)
    (hK : ∀ arr w', Res a0 n c w k arr w' → K ⟨arr, []⟩ w') :
    Code.wp Ybaf.prog ((Ybaf.f4.body.bind firstLoop).getD .skip) (Exit.then K Q) ⟨frame a0 n c w.heap.size u, []⟩ wr := by
  obtain ⟨o1, o2, o3⟩ := h.hok
  have i1 : (s.op : Int) ≤ 255 := by omega
  have i2 : (s.n : Int) ≤ 255 := by omega
  have i3 : (s.a : Int) ≤ 18446744073709551615 := by omega
  have hu := h.hu
  have hkn := h.hkn
  have hn := h.hn
  have hlo := h.hlo
  have hb1 := h.b1
  have hu4 := h.hu4
  obtain ⟨m0, mm, hv4⟩ := h.R.val [4]
  rw [h.ms.1] at hv4
  subst hnk
  obtain ⟨x0, xk, hv0⟩ := h.nk0
  have HV0 := hide hv0
  clear hv0
  obtain ⟨cnt, hcnt⟩ : ∃ cnt : Nat, 1 + (s.n : Int) % 5 = (cnt : Int) := ⟨1 + s.n % 5, by omega⟩
  have hc1 : 1 ≤ cnt := by omega
  have hc5 : cnt ≤ 5 := by omega
  have hci : (cnt : Int) ≤ 5 := by omega
  obtain rfl := h.ha
  have c0 := h.c0
  have c1 := h.c1
  have c2 := h.c2
  unfold frame
  rw [hu, hu4, hv4]
  conv => arg 2; whnf
  have HK := hide hK
  have HI := hide h
  have HV4 := hide hv4
  clear hK h hv4 hu hu4
  go_wp2_with fail
  generalize hw1 : wr.alloc _ = w1
  have hb1 : Below wr.heap.size wr w1 := by rw [← hw1]; exact (Below.refl _ _).alloc (Nat.le_refl _) _
  have hs1 : w1.heap.size = wr.heap.size + 1 := by rw [← hw1]; simp
  have hr1 : Bru w1 := bru_below HI.out.hBr hb1
  have y1 : w1.cell? ⟨wr.heap.size, 2, none⟩ = some (.int .u64 s.a) := by rw [← hw1]; exact (boxed_cell3 wr _ _ _ 38).2.2
  have hst : FRel w1 w1.heap.size ⟨#[114]⟩ (sumA s.a) 0 (.slice (some ⟨wr.heap.size + 1, 0, none⟩) 1 1) (w1.alloc (.cells #[.string ⟨#[114]⟩] 9)) := by rw [← hs1]; exact FRel.start w1 _ _
  have HST := hide hst
  have HB1 := hide hb1
  have HR1 := hide hr1
  have HY1 := hide y1
  have HS1 := hide hs1
  have HCNT := hide hcnt
  clear hw1 hb1 hr1 y1 hst c0 c1 c2 hs1 hcnt
  refine wp_loop (fun a wx => ∃ (j : Nat) (v : Nat → Value), a = ⟨frame (some ⟨b, off, none⟩) n c w.heap.size v, []⟩ ∧ L2 w1 wr.heap.size ⟨#[114]⟩ (sumA s.a) cnt k (.slice m0 0 mm) (.int .i64 0) u j v wx) (mu23 cnt) ?start ?round
  case start =>
    refine in_frame 0 ?_ ⟨by omega, HST.out, rfl, rfl, rfl, rfl, rfl, rfl, rfl, rfl, rfl, rfl, rfl, rfl, rfl⟩
    kernel_rfl
  case round =>
    rintro _ wx ⟨j, v, rfl, hL⟩
    obtain ⟨hj, hf, e23, e4, e5, e6, e7, e9, e10, e12, e13, e14, e15, e16, e52⟩ := hL
    rw [mu23_frame wx e23]
    obtain ⟨g, cap, Lf, ev, hcap, hglo, hglt, hg0, hgi⟩ := hf.at
    rw [ev] at hf
    unfold frame
    rw [e23, e4, ev, e5, e6, e7, e9, e10, e12, e13, e14, e15, e16, e52]
    have hbx := hf.bel
    have HF := hide hf
    have HBX := hide hbx
    have hsx : w1.heap.size ≤ wx.heap.size := hbx.size
    have HG := hide (And.intro hg0 hgi)
    clear hf hbx e23 e4 e5 e6 e7 e9 e10 e12 e13 e14 e15 e16 e52 ev hg0 hgi HST
    by_cases hjc : j < cnt
    · have hj1 : (j : Int) < (cnt : Int) := by omega
      have hj2 : (j : Int) ≤ 5 := by omega
      have hj3 : (0 : Int) ≤ (j : Int) := by omega
      have hj4 : IntKind.u64.wrap (j : Int) = (j : Int) := by have := sumA_int 0 j; simp [sumA] at this; omega
      have hsum := sumA_int s.a j
      have yx : wx.cell? ⟨wr.heap.size, 2, none⟩ = some (.int .u64 s.a) := cell_kept (HBX.out.block _ (by have := HS1.out; omega)) HY1.out
      go_wp2_with fail
      refine (format_hex (sumA s.a j) (sumA_lt _ _) wx (bru_below HR1.out HBX.out)).mono ?_
      rintro e wy ⟨l, rfl, hby, hnum⟩
      have hll : ¬ 9223372036854775807 < 2 + l.length := by have := hnum.2.1; omega
      have HFY := hide (HF.out.below (Nat.le_refl _) hby)
      have HN := hide hnum
      clear hby hnum yx hsum
      go_wp2_with (first | (refine wpList_append_stop rfl _ _ 22 rfl ?_) | fail)
      refine ⟨1, rfl, ?_⟩
      rw [hex_str]
      refine wpList_append_fields HFY.out (by omega) (Nat.le_refl _) HN.out rfl (.tmp 217) (.tmp 225) rfl ?hs 1 ?hx ?_
      case hs => rfl
      case hx => rfl
      intro v' w' hf' hs'
      have HF' := hide hf'
      clear hf'
      go_wp2_with fail
      refine ⟨in_frame (j + 1) ?_ ⟨hjc, HF'.out, ?_, rfl, rfl, rfl, rfl, rfl, rfl, rfl, rfl, rfl, rfl, rfl, rfl⟩, mu23_less w' rfl hjc⟩
      · kernel_rfl
      · exact congrArg (Value.int .i64) (by omega)
    · obtain rfl : j = cnt := by omega
      have hj1 : ¬ (j : Int) < (j : Int) := by omega
      go_wp2_with fail
      go_quiet (fail)
      generalize hw4 : wx.drewN nq = w4
      have hb4 : Below wr.heap.size wr w4 := by rw [← hw4]; exact below_drewN (HB1.out.trans (HBX.out.mono (by have := HS1.out; omega))) _
      have hs4 : w4.heap.size = wx.heap.size := by rw [← hw4]; rfl
      have f4 : w4.cell? ⟨g, 0, none⟩ = some (.string ⟨#[114]⟩) ∧ ∀ i, i < j → Num 16 (sumA s.a i) (Lf i) ∧ w4.cell? ⟨g, 1 + i, none⟩ = some (.string ⟨(48 :: 120 :: Lf i).toArray⟩) := by rw [← hw4]; exact HG.out
      have y4 : w4.cell? ⟨wr.heap.size, 2, none⟩ = some (.int .u64 s.a) := by rw [← hw4]; exact cell_kept (HBX.out.block _ (by have := HS1.out; omega)) HY1.out
      have hs14 : wr.heap.size + 1 ≤ w4.heap.size := by have := HS1.out; omega
      have hgl : wr.heap.size + 1 ≤ g := by have := HS1.out; omega
      have HB4 := hide hb4
      have HF4 := hide f4
      have HY4 := hide y4
      clear hw4 hb4 f4 HG HBX HF HY1 HR1 y4
      go_wp2_with fail
      have hB4 : PBx w4 w.heap.size V := (HB4.out.block _ (by omega)).trans HI.out.hB
      have hB1 : ∀ j, (w4.drewN j).cell? ⟨w.heap.size, 1, none⟩ = some (.slice x0 0 xk) := fun j => by
        rw [← HV0.out]
        exact (cell_of_row w4 _ _ _ _ _ hB4).trans rfl
      have hno : ∀ j, Calls Ybaf.prog 8 #[.pointer (some ⟨w.heap.size, 0, none⟩)] (w4.drewN j) fun e w' => e = .returned (.pointer none) ∧ ∃ i, w' = (w4.drewN j).drewN i := fun j => warp_none_of (w4.drewN j) w.heap.size (cta_none (w4.drewN j) w.heap.size x0 xk (hB1 j))
      refine (parse_r0 F w4 own (w.heap.size + 1) w.heap.size g cap V C X ((k : Int) + 2) (HI.out.R.below HB4.out) hB4 (by omega) (by omega) (by omega) (j + 1) (by omega) hcap (by omega) (by rw [HB4.out.tape]; exact HI.out.hF) hno HF4.out.1).mono ?_
      rintro e w5 ⟨⟨a, rfl⟩, hb5⟩
      have HB5 : Hid (Below wr.heap.size wr w5) := hide (HB4.out.trans (hb5.mono HB4.out.size))
      clear hb5 hB4 hno hB1
      go_wp2_with fail
      refine HK.out _ w5 (HI.out.done ?_ rfl ?_ rfl rfl rfl HB5.out)
      · kernel_rfl
      · exact HV4.out.symm
end Go.Proofs.YbulkmvuFmt
