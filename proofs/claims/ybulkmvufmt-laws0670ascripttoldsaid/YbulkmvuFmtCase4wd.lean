/-
  The round of 'LawS0670AScript': an w line of five addresses.
-/
import Derived.Test.YbulkmvuFmtFields
namespace Go.Proofs.YbulkmvuFmt
open Go.RowKit Go.Extern.Stop Go.Stop Go.Extern
set_option linter.unusedVariables false

set_option maxHeartbeats 4000000 in
set_option maxRecDepth 1000000 in
theorem case4_w_five (F : Interp) (a0 : Option Addr) (n c k b off : Nat) (u : Nat → Value) (w wr : World) (s : St3) (own : Nat → List Nat) (V : List Nat → Value) (C : List Nat → Nat) (X : List Nat → List Value) (nk : Nat) (nc : Nat → Nat) (nw : Nat → Nat → Nat) (ni : Nat → Nat → Nat → Nat) (nm : Nat → ByteArray) (na : Nat) (K : Act → World → Prop) (Q : Exit → Act → World → Prop) (h : In F a0 n c k b off u w wr s own V C X nk nc nw ni nm na) (hop : (s.op : Int).tmod 7 = 4) (hkw : (128 : Int) ≤ (s.n : Int)) (hnk : 0 < nk) (hq0 : 0 < nc (nk - 1)) (hw0 : 0 < nw (nk - 1) (nc (nk - 1) - 1)) (hn4 : s.n % 5 = 4)
    (hK : ∀ arr w', Res a0 n c w k arr w' → K ⟨arr, []⟩ w') :
    Code.wp Ybaf.prog ((Ybaf.f4.body.bind firstLoop).getD .skip) (Exit.then K Q) ⟨frame a0 n c w.heap.size u, []⟩ wr := by
  obtain ⟨o1, o2, o3⟩ := h.hok
  have i1 : (s.op : Int) ≤ 255 := by omega
  have i2 : (s.n : Int) ≤ 255 := by omega
  have i3 : (s.a : Int) ≤ 18446744073709551615 := by omega
  have hu := h.hu
  have hkn := h.hkn
  have hn := h.hn
  have hlo := h.hlo
  have hb1 := h.b1
  have hu4 := h.hu4
  obtain ⟨m0, mm, hv4⟩ := h.R.val [4]
  rw [h.ms.1] at hv4
  obtain ⟨q, rfl⟩ : ∃ q, nk = q + 1 := ⟨nk - 1, by omega⟩
  obtain ⟨r, hr⟩ : ∃ r, nc q = r + 1 := ⟨nc q - 1, by have : 0 < nc q := hq0; omega⟩
  have er : nc q - 1 = r := by omega
  have hw1 : 0 < nw q r := by
    have e := hw0
    simp only [Nat.add_sub_cancel] at e
    rw [er] at e
    exact e
  obtain ⟨p, hp⟩ : ∃ p, nw q r = p + 1 := ⟨nw q r - 1, by omega⟩
  obtain ⟨g4, k4, g5, k5, g6, k6, g0, k0, g1, k1, g2, k2, a3, k3, ev, ex, t4, t5, t6, l6⟩ := h.all hr hp
  have hnc := h.b2 q
  have hnw := h.b3 q r
  have hni := h.b4 q r p
  have HE := hide ev
  have HX := hide ex
  obtain ⟨m, hm⟩ : ∃ m, ni q r p = m := ⟨_, rfl⟩
  have hmk : m ≤ 512 := by omega
  have HM := hide hm
  rw [hr] at hnc
  rw [hp] at hnw
  have hqq1 : (0 : Int) < (q : Int) + 1 := by omega
  have hqq2 : (q : Int) < (q : Int) + 1 := by omega
  have hqq3 : (0 : Int) ≤ (q : Int) := by omega
  have hqq4 : IntKind.i64.wrap ((q : Int) + 1 - 1) = (q : Int) := by rw [IntWalk.i64_in _ (by omega)]; omega
  have hqq5 : IntKind.i64.wrap (q : Int) = (q : Int) := IntWalk.i64_in _ (by omega)
  have hqq6 : (q : Int) ≤ 512 := by omega
  have hrr1 : (0 : Int) < (r : Int) + 1 := by omega
  have hrr2 : (r : Int) < (r : Int) + 1 := by omega
  have hrr3 : (0 : Int) ≤ (r : Int) := by omega
  have hrr4 : IntKind.i64.wrap ((r : Int) + 1 - 1) = (r : Int) := by rw [IntWalk.i64_in _ (by omega)]; omega
  have hrr5 : IntKind.i64.wrap (r : Int) = (r : Int) := IntWalk.i64_in _ (by omega)
  have hrr6 : (r : Int) ≤ 512 := by omega
  have hpp1 : (0 : Int) < (p : Int) + 1 := by omega
  have hpp2 : (p : Int) < (p : Int) + 1 := by omega
  have hpp3 : (0 : Int) ≤ (p : Int) := by omega
  have hpp4 : IntKind.i64.wrap ((p : Int) + 1 - 1) = (p : Int) := by rw [IntWalk.i64_in _ (by omega)]; omega
  have hpp5 : IntKind.i64.wrap (p : Int) = (p : Int) := IntWalk.i64_in _ (by omega)
  have hpp6 : (p : Int) ≤ 512 := by omega
  have hmm1 : (0 : Int) < (m : Int) + 1 := by omega
  have hmm2 : (m : Int) < (m : Int) + 1 := by omega
  have hmm3 : (0 : Int) ≤ (m : Int) := by omega
  have hmm4 : IntKind.i64.wrap ((m : Int) + 1 - 1) = (m : Int) := by rw [IntWalk.i64_in _ (by omega)]; omega
  have hmm5 : IntKind.i64.wrap (m : Int) = (m : Int) := IntWalk.i64_in _ (by omega)
  have hmm6 : (m : Int) ≤ 512 := by omega
  clear hv4
  have hv4 := ev.1
  clear ev ex hm
  obtain ⟨cnt, hcnt⟩ : ∃ cnt : Nat, 1 + (s.n : Int) % 5 = (cnt : Int) := ⟨1 + s.n % 5, by omega⟩
  have hc1 : 1 ≤ cnt := by omega
  have hc5 : cnt ≤ 5 := by omega
  have hci : (cnt : Int) ≤ 5 := by omega
  have HC6 : Hid (cnt = 5) := hide (by omega)
  have hc7 : ¬ (cnt : Int) ≤ 4 := by omega
  clear hn4
  obtain rfl := h.ha
  have c0 := h.c0
  have c1 := h.c1
  have c2 := h.c2
  unfold frame
  rw [hu, hu4, hv4]
  conv => arg 2; whnf
  have HK := hide hK
  have HI := hide h
  have HV4 := hide hv4
  clear hK h hv4 hu hu4
  go_wp2_with fail
  generalize hw1 : wr.alloc _ = w1
  have hb1 : Below wr.heap.size wr w1 := by rw [← hw1]; exact (Below.refl _ _).alloc (Nat.le_refl _) _
  have hs1 : w1.heap.size = wr.heap.size + 1 := by rw [← hw1]; simp
  have hr1 : Bru w1 := bru_below HI.out.hBr hb1
  have y1 : w1.cell? ⟨wr.heap.size, 2, none⟩ = some (.int .u64 s.a) := by rw [← hw1]; exact (boxed_cell3 wr _ _ _ 38).2.2
  have hst : FRel w1 w1.heap.size ⟨#[119]⟩ (sumA s.a) 0 (.slice (some ⟨wr.heap.size + 1, 0, none⟩) 1 1) (w1.alloc (.cells #[.string ⟨#[119]⟩] 9)) := by rw [← hs1]; exact FRel.start w1 _ _
  have HST := hide hst
  have HB1 := hide hb1
  have HR1 := hide hr1
  have HY1 := hide y1
  have HS1 := hide hs1
  have HCNT := hide hcnt
  clear hw1 hb1 hr1 y1 hst c0 c1 c2 hs1 hcnt
  refine wp_loop (fun a wx => ∃ (j : Nat) (v : Nat → Value), a = ⟨frame (some ⟨b, off, none⟩) n c w.heap.size v, []⟩ ∧ L2 w1 wr.heap.size ⟨#[119]⟩ (sumA s.a) cnt k (.slice (some ⟨g4, 0, none⟩) (q + 1) k4) (.int .i64 ((q : Int) + 1)) u j v wx) (mu23 cnt) ?start ?round
  case start =>
    refine in_frame 0 ?_ ⟨by omega, HST.out, rfl, rfl, rfl, rfl, rfl, rfl, rfl, rfl, rfl, rfl, rfl, rfl, rfl⟩
    kernel_rfl
  case round =>
    rintro _ wx ⟨j, v, rfl, hL⟩
    obtain ⟨hj, hf, e23, e4, e5, e6, e7, e9, e10, e12, e13, e14, e15, e16, e52⟩ := hL
    rw [mu23_frame wx e23]
    obtain ⟨g, cap, Lf, ev, hcap, hglo, hglt, hg0, hgi⟩ := hf.at
    rw [ev] at hf
    unfold frame
    rw [e23, e4, ev, e5, e6, e7, e9, e10, e12, e13, e14, e15, e16, e52]
    have hbx := hf.bel
    have HF := hide hf
    have HBX := hide hbx
    have hsx : w1.heap.size ≤ wx.heap.size := hbx.size
    have HG := hide (And.intro hg0 hgi)
    clear hf hbx e23 e4 e5 e6 e7 e9 e10 e12 e13 e14 e15 e16 e52 ev hg0 hgi HST
    by_cases hjc : j < cnt
    · have hj1 : (j : Int) < (cnt : Int) := by omega
      have hj2 : (j : Int) ≤ 5 := by omega
      have hj3 : (0 : Int) ≤ (j : Int) := by omega
      have hj4 : IntKind.u64.wrap (j : Int) = (j : Int) := by have := sumA_int 0 j; simp [sumA] at this; omega
      have hsum := sumA_int s.a j
      have yx : wx.cell? ⟨wr.heap.size, 2, none⟩ = some (.int .u64 s.a) := cell_kept (HBX.out.block _ (by have := HS1.out; omega)) HY1.out
      go_wp2_with fail
      refine (format_hex (sumA s.a j) (sumA_lt _ _) wx (bru_below HR1.out HBX.out)).mono ?_
      rintro e wy ⟨l, rfl, hby, hnum⟩
      have hll : ¬ 9223372036854775807 < 2 + l.length := by have := hnum.2.1; omega
      have HFY := hide (HF.out.below (Nat.le_refl _) hby)
      have HN := hide hnum
      clear hby hnum yx hsum
      go_wp2_with (first | (refine wpList_append_stop rfl _ _ 22 rfl ?_) | fail)
      refine ⟨1, rfl, ?_⟩
      rw [hex_str]
      refine wpList_append_fields HFY.out (by omega) (Nat.le_refl _) HN.out rfl (.tmp 217) (.tmp 225) rfl ?hs 1 ?hx ?_
      case hs => rfl
      case hx => rfl
      intro v' w' hf' hs'
      have HF' := hide hf'
      clear hf'
      go_wp2_with fail
      refine ⟨in_frame (j + 1) ?_ ⟨hjc, HF'.out, ?_, rfl, rfl, rfl, rfl, rfl, rfl, rfl, rfl, rfl, rfl, rfl, rfl⟩, mu23_less w' rfl hjc⟩
      · kernel_rfl
      · exact congrArg (Value.int .i64) (by omega)
    · obtain rfl : j = cnt := by omega
      have hj1 : ¬ (j : Int) < (j : Int) := by omega
      go_wp2_with fail
      have d4 : wx.cell? ⟨g4, q, none⟩ = some (.slice (some ⟨g5, 0, none⟩) (r + 1) k5) := cell_below (HB1.out.trans (HBX.out.mono (by have := HS1.out; omega))) t4 HX.out.1
      have d5 : wx.cell? ⟨g5, r, none⟩ = some (.slice (some ⟨g6, 0, none⟩) (p + 1) k6) := cell_below (HB1.out.trans (HBX.out.mono (by have := HS1.out; omega))) t5 HX.out.2.1
      go_quiet (fail)
      generalize hw4 : wx.drewN nq = w4
      have hb4 : Below wr.heap.size wr w4 := by rw [← hw4]; exact below_drewN (HB1.out.trans (HBX.out.mono (by have := HS1.out; omega))) _
      have hs4 : w4.heap.size = wx.heap.size := by rw [← hw4]; rfl
      have f4 : w4.cell? ⟨g, 0, none⟩ = some (.string ⟨#[119]⟩) ∧ ∀ i, i < j → Num 16 (sumA s.a i) (Lf i) ∧ w4.cell? ⟨g, 1 + i, none⟩ = some (.string ⟨(48 :: 120 :: Lf i).toArray⟩) := by rw [← hw4]; exact HG.out
      have y4 : w4.cell? ⟨wr.heap.size, 2, none⟩ = some (.int .u64 s.a) := by rw [← hw4]; exact cell_kept (HBX.out.block _ (by have := HS1.out; omega)) HY1.out
      have hs14 : wr.heap.size + 1 ≤ w4.heap.size := by have := HS1.out; omega
      have hgl : wr.heap.size + 1 ≤ g := by have := HS1.out; omega
      have HB4 := hide hb4
      have HF4 := hide f4
      have HY4 := hide y4
      clear hw4 hb4 f4 HG HBX HF HY1 HR1 y4
      clear d4 d5
      go_wp2_with fail
      have hB4 : PBx w4 w.heap.size V := (HB4.out.block _ (by omega)).trans HI.out.hB
      obtain rfl : j = 5 := HC6.out
      refine (parse_w5 F w4 own (w.heap.size + 1) w.heap.size g cap V C X ((k : Int) + 2) (HI.out.R.below HB4.out) hB4 (by omega) (by omega) (by omega) g0 q k0 g1 r k1 g2 p k2 a3 k3 (by omega) (by omega) (by omega) HE.out.2.2.2.1 HE.out.2.2.2.2.1 HE.out.2.2.2.2.2.1 (HI.out.ps.2.1 q (by omega)).2 ((HI.out.ps.2.2.1 q).2 r (by rw [hr]; omega)) (by omega) (by rw [HB4.out.tape]; exact HI.out.hF) HF4.out.1).mono ?_
      rintro e w5 ⟨⟨a, rfl⟩, hb5⟩
      have HB5 : Hid (Below wr.heap.size wr w5) := hide (HB4.out.trans (hb5.mono HB4.out.size))
      clear hb5 hB4
      go_wp2_with fail
      refine HK.out _ w5 (HI.out.done ?_ rfl ?_ rfl rfl rfl HB5.out)
      · kernel_rfl
      · exact HV4.out.symm
end Go.Proofs.YbulkmvuFmt
