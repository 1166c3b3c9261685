/-
  'zzs0670bpopcheck'.
-/
import Derived.Test.YbulkmvuModel
namespace Go.Proofs.Ybulkmvu.Check
open Go.RowKit Go.Proofs.Ybulkmvu.Ev Go.Proofs.Ybulkmvu.Heap Go.Proofs.Ybulkmvu.Queue Go.Proofs.Ybulkmvu.Model Go.Proofs.Ybulkmvu.DrainPlain

/-- The model in memory: its events in block MB, what is gone in block GB. -/
def ModelAt (B MB GB : Nat) (w : World) (c : Nat) (E : List Ev) (D : Nat → Bool) : Prop :=
  ∃ xs, w.ownsRow B 41 10 (.slice (some ⟨MB, 0, none⟩) E.length c) E.length xs ∧ Row xs E ∧ w.ownsRow B 4 1 (.slice (some ⟨GB, 0, none⟩) E.length c) E.length ((List.range E.length).map fun i => .bool (D i))

theorem ModelAt.same {B MB GB : Nat} {a b : World} {c : Nat} {E : List Ev} {D : Nat → Bool} (h : ModelAt B MB GB a c E D) (h1 : b.heap[MB]? = a.heap[MB]?) (h2 : b.heap[GB]? = a.heap[GB]?) : ModelAt B MB GB b c E D := by
  obtain ⟨xs, ho, hr, hg⟩ := h
  refine ⟨xs, ⟨ho.1, ?_⟩, hr, ⟨hg.1, ?_⟩⟩
  · rcases ho.2 with h | ⟨q, c', cur, hv, hb, hg, r⟩
    · exact .inl h
    · have e : q = MB := by simp only [Value.slice.injEq, Option.some.injEq, Addr.mk.injEq] at hv; exact hv.1.1.symm
      subst e
      exact .inr ⟨q, c', cur, hv, hb, h1.trans hg, r⟩
  · rcases hg.2 with h | ⟨q, c', cur, hv, hb, hgg, r⟩
    · exact .inl h
    · have e : q = GB := by simp only [Value.slice.injEq, Option.some.injEq, Addr.mk.injEq] at hv; exact hv.1.1.symm
      subst e
      exact .inr ⟨q, c', cur, hv, hb, h2.trans hgg, r⟩

theorem ModelAt.lt {B MB GB : Nat} {w : World} {c : Nat} {E : List Ev} {D : Nat → Bool} (h : ModelAt B MB GB w c E D) : MB < w.heap.size ∧ GB < w.heap.size ∧ B ≤ MB ∧ B ≤ GB := by
  obtain ⟨xs, ho, _, hg⟩ := h
  exact ⟨(ho.lt _ rfl).2, (hg.lt _ rfl).2, (ho.lt _ rfl).1, (hg.lt _ rfl).1⟩

theorem ModelAt.ne {B MB GB : Nat} {w : World} {c : Nat} {E : List Ev} {D : Nat → Bool} (h : ModelAt B MB GB w c E D) : MB ≠ GB := by
  obtain ⟨xs, ho, _, hg⟩ := h
  rcases ho.2 with ⟨h, _⟩ | ⟨q, c', cur, hv, _, hq, _⟩
  · simp at h
  rcases hg.2 with ⟨h, _⟩ | ⟨q2, c2, cur2, hv2, _, hq2, _⟩
  · simp at h
  simp only [Value.slice.injEq, Option.some.injEq, Addr.mk.injEq] at hv hv2
  intro e
  rw [← hv.1.1, e, hv2.1.1, hq2] at hq
  simp at hq

theorem ModelAt.ev {B MB GB : Nat} {w : World} {c : Nat} {E : List Ev} {D : Nat → Bool} (h : ModelAt B MB GB w c E D) (i : Nat) (hi : i < E.length) : w.rangeAt MB (i * 10) (evCells (g E i)) := by
  obtain ⟨xs, ho, hr, _⟩ := h
  exact evAt ho hr rfl i hi

theorem ModelAt.gone {B MB GB : Nat} {w : World} {c : Nat} {E : List Ev} {D : Nat → Bool} (h : ModelAt B MB GB w c E D) (i : Nat) (hi : i < E.length) : w.cell? ⟨GB, i, none⟩ = some (.bool (D i)) ∧ w.frozen? ⟨GB, i, none⟩ = false := by
  obtain ⟨xs, _, _, hg⟩ := h
  refine ⟨?_, hg.frozenAt i⟩
  rw [hg.cellAt i (by omega)]
  simp [hi]

theorem ModelAt.set {B MB GB : Nat} {w : World} {c : Nat} {E : List Ev} {D : Nat → Bool} (h : ModelAt B MB GB w c E D) (i : Nat) : ModelAt B MB GB (w.setCell ⟨GB, i, none⟩ (.bool true)) c E (goneAt D i) := by
  have hne := h.ne
  obtain ⟨xs, ho, hr, hg⟩ := h
  refine ⟨xs, ownsRow_setCell_other ho (by simpa [Value.ownBlock] using hne) _, hr, ?_⟩
  have e : ((List.range E.length).map fun j => Value.bool (D j)).set i (.bool true) = (List.range E.length).map fun j => Value.bool (goneAt D i j) := by
    apply List.ext_getElem?
    intro j
    rw [List.getElem?_set]
    by_cases hij : i = j
    · subst hij
      by_cases hi : i < E.length
      · simp [hi, goneAt]
      · simp [hi]
    · have hji : ¬ j = i := fun e => hij e.symm
      by_cases hj : j < E.length
      · simp [hij, goneAt, hji, hj]
      · simp [hij, hj]
  have := (hg.stored i (.bool true)).1
  rw [e] at this
  exact this

theorem QAt_same {B Q : Nat} {R : Option Nat} {a b : World} {L : List Ev} {s : Int} (h : QAt B Q R a L s) (hQ : b.heap[Q]? = a.heap[Q]?) (hR : ∀ q, R = some q → b.heap[q]? = a.heap[q]?) : QAt B Q R b L s := by
  obtain ⟨ao, cap, xs, hq, hown, hrow, hO, hRQ⟩ := h
  refine ⟨ao, cap, xs, hQ.trans hq, ⟨hown.1, ?_⟩, hrow, hO, hRQ⟩
  rcases hown.2 with h | ⟨q, c, cur, hv, hb, hg, r⟩
  · exact .inl h
  · exact .inr ⟨q, c, cur, hv, hb, (hR q (by rw [← hO, hv]; rfl)).trans hg, r⟩

/-- The slot that holds the best place. -/
def bestInt : Option Nat → Int
  | none => -1
  | some i => (i : Int)

set_option maxRecDepth 100000 in
set_option maxHeartbeats 2000000 in
theorem check_any (B Q MB GB c : Nat) (R : Option Nat) (w : World) (L E : List Ev) (D : Nat → Bool) (s : Int) (n : Nat) (hc : Bool) (hq : QAt B Q R w L s) (hL : L.length = n + 1) (hn : n ≤ 1100) (hH : Heap L) (hm : ModelAt B MB GB w c E D) (hE : E.length ≤ 1100) (hnum : Numbered E) (hp : L.Perm (alive E D))
    (hMQ : MB ≠ Q) (hGQ : GB ≠ Q) (hRM : R ≠ some MB) (hRG : R ≠ some GB) (hBQ : B ≤ Q) (hB : B ≤ w.heap.size) (hRB : ∀ q, R = some q → B ≤ q) :
    Calls Yba.prog 7 #[.pointer (some ⟨Q, 0, none⟩), .slice (some ⟨MB, 0, none⟩) E.length c, .slice (some ⟨GB, 0, none⟩) E.length c, .int .i64 ((n : Int) + 1), .bool hc] w fun e w' =>
      e = .returned (.bool true) ∧ ∃ L' D', QAt B Q R w' L' s ∧ L'.length = n ∧ Heap L' ∧ ModelAt B MB GB w' c E D' ∧ L'.Perm (alive E D') ∧ Below B w w' ∧ ∀ i, E.length ≤ i → D' i = D i := by
  obtain ⟨x, hx⟩ : ∃ x, g L 0 = x := ⟨_, rfl⟩
  go_enter Yba.func7, Yba.ntmps7
  go_wp2_with fail
  refine (pop_lit B Q R w L n s x hx hq hL (by omega) hH).mono ?_
  rintro e w1 ⟨rfl, L', hq1, hh1, hp1, hk1⟩
  have hm1 : ModelAt B MB GB w1 c E D := hm.same (hk1.block _ hm.lt.1 hMQ (fun e => hRM e.symm)) (hk1.block _ hm.lt.2.1 hGQ (fun e => hRG e.symm))
  have hb1 : Below B w w1 := hk1.below hB hBQ hRB
  have hl1 : L'.length = n := by have := hp1.length_eq; simp at this; omega
  have HQ := hide hq1
  have HH := hide hh1
  have HP1 := hide hp1
  have HM := hide hm1
  have HB1 := hide hb1
  have HL1 := hide hl1
  have HX := hide hx
  have HP := hide hp
  have HN := hide hnum
  have HHL := hide hH
  have HLL := hide hL
  clear hq hH hm hnum hp hq1 hh1 hp1 hm1 hb1 hl1 hx hL hk1
  go_wp2_with fail
  generalize hwA : (w1.alloc (.cells #[.int .i64 x.t, .int .u8 x.st, .int .u32 0, .int .i64 x.cu, .int .u64 x.seq, .pointer none, .pointer none, .pointer none, .pointer none, .pointer none] 41)) = wA
  have hbA : Below w1.heap.size w1 wA := by rw [← hwA]; exact (Below.refl _ _).alloc (Nat.le_refl _) _
  have hgA : wA.heap[w1.heap.size]? = some (.cells #[.int .i64 x.t, .int .u8 x.st, .int .u32 0, .int .i64 x.cu, .int .u64 x.seq, .pointer none, .pointer none, .pointer none, .pointer none, .pointer none] 41 (0, 0)) := by rw [← hwA]; exact heap_alloc_new _ _
  have HBA := hide hbA
  have HGA := hide hgA
  clear hwA hbA hgA
  go_loopw [12, 13] (fun bv kv wr => ∃ (b : Option Nat) (k m : Nat), bv = .int .i64 (bestInt b) ∧ kv = .int .i64 k ∧ k ≤ E.length ∧ Best E D k b ∧ wr = wA.drewN m) (fun _ kv _ => E.length - (intOf kv).toNat)
  case atStart => exact ⟨none, 0, 0, rfl, rfl, Nat.zero_le _, best_start E D, rfl⟩
  case round =>
    obtain ⟨bo, k, m, rfl, rfl, hk, hbest, hw⟩ := hrel
    have hbr : Below w1.heap.size w1 wr := by rw [hw]; exact below_drewN HBA.out _
    have hmr : ModelAt B MB GB wr c E D := HM.out.same (hbr.block _ HM.out.lt.1) (hbr.block _ HM.out.lt.2.1)
    have hgr : wr.heap[w1.heap.size]? = some (.cells #[.int .i64 x.t, .int .u8 x.st, .int .u32 0, .int .i64 x.cu, .int .u64 x.seq, .pointer none, .pointer none, .pointer none, .pointer none, .pointer none] 41 (0, 0)) := by rw [hw]; exact HGA.out
    have HBE := hide hbest
    have HW := hide hw
    have HBR := hide hbr
    have HMR := hide hmr
    have HGR := hide hgr
    clear hbest hw hbr hmr hgr
    by_cases hlt : k < E.length
    · obtain ⟨ck, fk⟩ := HMR.out.gone k hlt
      cases hd : D k with
      | true =>
        rw [hd] at ck
        go_wp2_with fail
        go_roundw
        case rel => exact ⟨bo, k + 1, m, rfl, by go_num, by omega, best_gone HBE.out hd, HW.out⟩
        case measure => simp [intOf]; omega
      | false =>
        rw [hd] at ck
        have k1 : (0 : Int) ≤ (k : Int) := by omega
        have k2 : (k : Int) < (E.length : Int) := by omega
        cases bo with
        | none =>
          have HD := hide hd
          clear hd
          simp only [bestInt]
          go_wp2_with fail
          go_quiet (fail)
          go_wp2_with fail
          go_roundw
          case rel => exact ⟨some k, k + 1, _, rfl, by go_num, by omega, best_first HBE.out HD.out, by rw [HW.out, World.drewN_drewN]⟩
          case measure => simp [intOf]; omega
        | some i =>
          have hik : i < k := HBE.out.1
          have HD := hide hd
          have HAK := hide (at_of_range (HMR.out.ev k hlt))
          have HAI := hide (at_of_range (HMR.out.ev i (by omega)))
          clear hd
          have i1 : (0 : Int) ≤ (i : Int) := by omega
          have i2 : (i : Int) < (E.length : Int) := by omega
          have i3 : decide ((i : Int) < 0) = false := by simp
          simp only [bestInt]
          by_cases hl : Lt (g E k) (g E i)
          · have HLT := hide hl
            clear hl
            go_wp2_with fail
            go_quiet ((go_at_call 10; exact Calls.quiet_of (less_any (wr.drewN _) MB (k * 10) MB (i * 10) (g E k) (g E i) (At.drewN HAK.out _) (At.drewN HAI.out _) true (by simp [HLT.out]))))
            go_wp2_with fail
            go_roundw
            case rel => exact ⟨some k, k + 1, _, rfl, by go_num, by omega, best_less HBE.out HD.out HLT.out, by rw [HW.out, World.drewN_drewN]⟩
            case measure => simp [intOf]; omega
          · have HLT := hide hl
            clear hl
            go_wp2_with fail
            go_quiet ((go_at_call 10; exact Calls.quiet_of (less_any (wr.drewN _) MB (k * 10) MB (i * 10) (g E k) (g E i) (At.drewN HAK.out _) (At.drewN HAI.out _) false (by simp [HLT.out]))))
            go_wp2_with fail
            go_roundw
            case rel => exact ⟨some i, k + 1, _, rfl, by go_num, by omega, best_keep HBE.out HLT.out, by rw [HW.out, World.drewN_drewN]⟩
            case measure => simp [intOf]; omega
    · obtain rfl : k = E.length := by omega
      obtain ⟨i, rfl, hiE, hdi, hgi⟩ := best_is HN.out HP.out HHL.out (by rw [HLL.out]; omega) HBE.out
      have hev := HMR.out.ev i hiE
      rw [hgi, HX.out] at hev
      have cm0 := hev 0 _ rfl
      have cm1 := hev 1 _ rfl
      have cm2 := hev 2 _ rfl
      have cm3 := hev 3 _ rfl
      have cm4 := hev 4 _ rfl
      have cm5 := hev 5 _ rfl
      have cm6 := hev 6 _ rfl
      have cm7 := hev 7 _ rfl
      have cm8 := hev 8 _ rfl
      have cm9 := hev 9 _ rfl
      simp only [Nat.add_zero] at cm0
      have cg0 : wr.cell? ⟨w1.heap.size, 0, none⟩ = some (.int .i64 x.t) := by rw [cell_of_row _ _ _ _ _ _ HGR.out]; rfl
      have cg1 : wr.cell? ⟨w1.heap.size, 1, none⟩ = some (.int .u8 x.st) := by rw [cell_of_row _ _ _ _ _ _ HGR.out]; rfl
      have cg3 : wr.cell? ⟨w1.heap.size, 3, none⟩ = some (.int .i64 x.cu) := by rw [cell_of_row _ _ _ _ _ _ HGR.out]; rfl
      have cg4 : wr.cell? ⟨w1.heap.size, 4, none⟩ = some (.int .u64 x.seq) := by rw [cell_of_row _ _ _ _ _ _ HGR.out]; rfl
      obtain ⟨ci, fi⟩ := HMR.out.gone i hiE
      rw [hdi] at ci
      have zM := HMR.out.lt.1
      have zG := HMR.out.lt.2.1
      have z1 := lt_of_block HGR.out
      have HMG := hide HMR.out.ne
      have hng : MB ≠ GB := HMR.out.ne
      have hlw : GB < w1.heap.size := HM.out.lt.2.1
      -- behind the store into what is gone
      have hmS := HMR.out.set i
      have hqS : QAt B Q R (wr.setCell ⟨GB, i, none⟩ (.bool true)) L' s := QAt_same (HQ.out.of_below HBR.out) (heap_setCell_other _ _ _ _ (by simpa using fun e => hGQ e.symm)) (fun q e => heap_setCell_other _ _ _ _ (by intro e2; exact hRG (by rw [e]; simpa using e2)))
      have hbS : Below B w (wr.setCell ⟨GB, i, none⟩ (.bool true)) := (HB1.out.trans (HBR.out.mono (Nat.le_trans hB HB1.out.size))).setCell (p := ⟨GB, i, none⟩) HMR.out.lt.2.2.2 _
      have hpS := alive_pop HP.out hiE hdi hgi (by rw [HX.out]; exact HP1.out)
      have HMS := hide hmS
      have HQS := hide hqS
      have HBS := hide hbS
      have HPS := hide hpS
      have HGI := hide hgi
      have HDI := hide hdi
      clear hev hmS hqS hbS hpS hgi hdi HMG
      have i1 : (0 : Int) ≤ (i : Int) := by omega
      have i2 : (i : Int) < (E.length : Int) := by omega
      simp only [bestInt]
      go_wp2_with fail
      generalize hwz : ((wr.setCell ⟨GB, i, none⟩ (.bool true)).alloc (.cells #[.int .i64 x.t, .int .u8 x.st, .int .u32 0, .int .i64 x.cu, .int .u64 x.seq, .pointer none, .pointer none, .pointer none, .pointer none, .pointer none] 41)) = wz
      have hbz : Below (wr.setCell ⟨GB, i, none⟩ (.bool true)).heap.size (wr.setCell ⟨GB, i, none⟩ (.bool true)) wz := by rw [← hwz]; exact (Below.refl _ _).alloc (Nat.le_refl _) _
      have HQZ := hide (HQS.out.of_below hbz)
      have HMZ := hide (HMS.out.same (hbz.block _ HMS.out.lt.1) (hbz.block _ HMS.out.lt.2.1))
      have HBZ := hide (HBS.out.trans (hbz.mono (Nat.le_trans hB HBS.out.size)))
      have HDZ : Hid (∀ j, E.length ≤ j → goneAt D i j = D j) := fun j hj => by unfold goneAt; rw [if_neg (by omega)]
      clear hwz hbz HQS HMS HBS ci fi zM zG z1 cm0 cm1 cm2 cm3 cm4 cm5 cm6 cm7 cm8 cm9 cg0 cg1 cg3 cg4
      refine (len_int B Q R wz L' s (n : Int) HQZ.out (by rw [HL1.out])).mono ?_
      rintro e w8 ⟨rfl, hw8⟩
      obtain rfl : wz = w8 := hw8.symm
      cases hc with
      | false =>
        go_wp2_with fail
        go_ret
        exact ⟨rfl, L', goneAt D i, HQZ.out, HL1.out, HH.out, HMZ.out, HPS.out, HBZ.out, HDZ.out⟩
      | true =>
        go_wp2_with fail
        go_loopw [15] (fun iv wr2 => ∃ p m : Nat, iv = .int .i64 p ∧ 1 ≤ p ∧ p ≤ n + 1 ∧ wr2 = wz.drewN m) (fun iv _ => n + 1 - (intOf iv).toNat)
        case atStart => exact ⟨1, 0, rfl, by omega, by omega, rfl⟩
        case round =>
          obtain ⟨p, m2, rfl, hp1, hp2, hw2⟩ := hrel
          have hbl2 : Below wz.heap.size wz wr := by rw [hw2]; exact below_drewN (Below.refl _ _) _
          have HQ2 := hide (HQZ.out.of_below hbl2)
          have HB2 := hide hbl2
          have HW2 := hide hw2
          clear hbl2 hw2
          by_cases hpn : p < n
          · have hpL : p < L'.length := by rw [HL1.out]; exact hpn
            obtain ⟨q, hRq⟩ : ∃ q, R = some q := by
              obtain ⟨ao, cap, xs, -, ho, -, hO, -⟩ := HQ2.out
              obtain ⟨q, cg, hv, _, _⟩ := ho.form (by omega)
              exact ⟨q, by rw [← hO, hv]; rfl⟩
            obtain ⟨-, rp, ⟨capp, -, cp⟩, -⟩ := Pop.QAt.there HQ2.out hRq p hpL
            obtain ⟨-, rr, -, -⟩ := Pop.QAt.there HQ2.out hRq ((p - 1) / 2) (by omega)
            rw [HL1.out] at cp
            have HRP := hide (at_of_range rp)
            have HRR := hide (at_of_range rr)
            have hno : ¬ Lt (g L' p) (g L' ((p - 1) / 2)) := HH.out p (by omega) hpL
            have HNO := hide hno
            clear rp rr hno
            have b1 : (0 : Int) ≤ (p : Int) := by omega
            have b2 : (p : Int) < (n : Int) := by omega
            have b3 : (0 : Int) ≤ ((p : Int) - 1) / 2 := by omega
            have b4 : ((p : Int) - 1) / 2 < (n : Int) := by omega
            have e1 : (((p : Int) - 1) / 2).toNat = (p - 1) / 2 := by omega
            go_wp2_with fail
            go_quiet ((go_at_call 10; exact Calls.quiet_of (less_any (wr.drewN _) q (p * 10) q ((p - 1) / 2 * 10) (g L' p) (g L' ((p - 1) / 2)) (At.drewN HRP.out _) (At.drewN HRR.out _) false (by simp [HNO.out]))))
            go_wp2_with fail
            go_roundw
            case rel => exact ⟨p + 1, _, by go_num, by omega, by omega, by rw [HW2.out, World.drewN_drewN]⟩
            case measure => simp [intOf]; omega
          · obtain ⟨ao, cap, xs, hQc, -, -, -, -⟩ := HQ2.out
            have cp : wr.cell? ⟨Q, 0, none⟩ = some (.slice ao n cap) := by rw [cell_of_row _ _ _ _ _ _ hQc, HL1.out]; rfl
            clear hQc
            have b2 : ¬ (p : Int) < (n : Int) := by omega
            go_wp2_with fail
            go_ret
            exact ⟨rfl, L', HQ2.out, HL1.out, HH.out, goneAt D i, HMZ.out.same (HB2.out.block _ HMZ.out.lt.1) (HB2.out.block _ HMZ.out.lt.2.1), HPS.out, HBZ.out.trans (HB2.out.mono (Nat.le_trans hB HBZ.out.size)), HDZ.out⟩

end Go.Proofs.Ybulkmvu.Check
