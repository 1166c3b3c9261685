/-
  'LawS0670BDrain': the walk.
-/
import Derived.Test.YbulkmvuDrainPlain
namespace Go.Proofs.Ybulkmvu.Drain
open Go.RowKit Go.Proofs.Ybulkmvu.Ev Go.Proofs.Ybulkmvu.Heap Go.Proofs.Ybulkmvu.Queue Go.Proofs.Ybulkmvu.DrainPlain

theorem info4 : (Yba.prog.info? 4).map (fun i => (i.zero, i.size, i.bytes)) = some (some (.bool false), 1, 1) := by kernel_rfl
theorem ret_bool {b : Bool} (h : b = true) : Ending.returned (.bool b) = .returned (.bool true) := by rw [h]

/-- The stage of the k-th event. -/
def stOf (sts : Nat → Int) (len1 k : Nat) : Int := if len1 = 0 then 0 else sts (k % len1)

/-- What holds at the head of each round of the first loop. -/
def Inv1 (w : World) (ats st : Nat → Int) (k : Nat) (wr : World) : Prop :=
  ∃ R M, QAt w.heap.size w.heap.size R wr M (k : Int) ∧ Heap M ∧ M.Perm (evs ats st k) ∧ Below w.heap.size w wr ∧ (∀ q, R = some q → w.heap.size ≤ q)

theorem Inv1.step {w wr w2 : World} {ats st : Nat → Int} {k : Nat} {R R' : Option Nat} {M M' : List Ev} (hR : ∀ q, R = some q → w.heap.size ≤ q) (hsz : w.heap.size ≤ wr.heap.size) (hb : Below w.heap.size w wr) (hp : M.Perm (evs ats st k))
    (hq : QAt w.heap.size w.heap.size R' w2 M' ((k : Int) + 1)) (hh : Heap M') (hp' : M'.Perm (M ++ [⟨ats k, st k, 0, (k : Int)⟩])) (hk : Kq w.heap.size R wr w2) (hn : R' = R ∨ ∃ q, R' = some q ∧ wr.heap.size ≤ q) : Inv1 w ats st (k + 1) w2 := by
  refine ⟨R', M', by simpa using hq, hh, hp'.trans (by rw [evs_succ]; exact List.Perm.append_right _ hp), hb.trans (hk.below hsz (Nat.le_refl _) hR), ?_⟩
  rcases hn with rfl | ⟨q, rfl, hq⟩
  · exact hR
  · intro q' e
    simp only [Option.some.injEq] at e
    omega

/-- What holds at the head of each round of the second loop: P popped, M left; which numbers were seen; the last popped. -/
def Inv2 (w : World) (ats st : Nat → Int) (N SB PB : Nat) (R : Option Nat) (P M : List Ev) (wr : World) : Prop :=
  QAt w.heap.size w.heap.size R wr M (N : Int) ∧ DrainPlain.Left ats st N P M ∧ Below w.heap.size w wr ∧
  (∃ bs, wr.heap[SB]? = some (.cells bs 4 (0, 0)) ∧ bs.size = N ∧ ∀ j, j < N → ∃ c, bs[j]? = some (.bool c) ∧ (c = true ↔ ∃ y ∈ P, y.seq = (j : Int))) ∧
  (∃ v0 v1 v2 v3 v4 v5 v6 v7 v8 v9, wr.heap[PB]? = some (.cells #[v0, v1, v2, v3, v4, v5, v6, v7, v8, v9] 41 (0, 0)) ∧ ∀ y, P.getLast? = some y → [v0, v1, v2, v3, v4, v5, v6, v7, v8, v9] = evCells y)

theorem inv2_start {w wo w3 : World} {ats st : Nat → Int} {N : Nat} {R : Option Nat} {M : List Ev}
    (hq : QAt w.heap.size w.heap.size R wo M (N : Int)) (hh : Heap M) (hp : M.Perm (evs ats st N)) (hb : Below w.heap.size w wo)
    (hown : w3.ownsRow w.heap.size 4 1 (.slice (some ⟨wo.heap.size, 0, none⟩) N N) N (madeCells #[.bool false] N).toList) (hgr : wo.grownBy w3 none) :
    wo.heap.size < w3.heap.size ∧ (∀ q, R = some q → q < wo.heap.size) ∧ Inv2 w ats st N wo.heap.size w3.heap.size R [] M (w3.alloc (.cells #[.int .i64 0, .int .u8 0, .int .u32 0, .int .i64 0, .int .u64 0, .pointer none, .pointer none, .pointer none, .pointer none, .pointer none] 41)) := by
  have hlt : wo.heap.size < w3.heap.size := (hown.lt _ rfl).2
  have h3 : Below wo.heap.size wo w3 := ⟨hgr.os, hgr.tape, hgr.output, hgr.size, fun k hk => hgr.block k hk (by simp)⟩
  have h4 : Below wo.heap.size wo (w3.alloc (.cells #[.int .i64 0, .int .u8 0, .int .u32 0, .int .i64 0, .int .u64 0, .pointer none, .pointer none, .pointer none, .pointer none, .pointer none] 41)) := h3.alloc (by omega) _
  have hRl : ∀ q, R = some q → q < wo.heap.size := by
    intro q e
    obtain ⟨ao, cap, xs, -, ho, -, hO, -⟩ := hq
    exact (ho.lt q (by rw [hO, e])).2
  refine ⟨hlt, hRl, hq.of_below h4, ⟨hp, hh, fun y hy => by simp at hy⟩, hb.trans (h4.mono hb.size), ?_, ⟨_, _, _, _, _, _, _, _, _, _, heap_alloc_new _ _, fun y hy => by simp at hy⟩⟩
  rw [toList_madeCells_one] at hown
  rcases hown.2 with ⟨h, _⟩ | ⟨g', cap, cur, hv, _, hg, _, _, hcs, htake⟩
  · simp at h
  · simp only [Value.slice.injEq, Option.some.injEq, Addr.mk.injEq, and_true, true_and] at hv
    obtain ⟨rfl, rfl⟩ := hv
    refine ⟨cur, by rw [Below.heap_alloc _ _ _ hlt]; exact hg, by omega, fun j hj => ⟨false, ?_, by simp⟩⟩
    have h1 : (cur.toList.take (N * 1))[j]? = some (.bool false) := by rw [htake]; simp [hj]
    rw [List.getElem?_take] at h1
    simpa [hj] using h1

def setArr : Array Value → Nat → List Value → Array Value
  | cs, _, [] => cs
  | cs, o, v :: r => setArr (cs.setIfInBounds o v) (o + 1) r

theorem setCells_arr : ∀ (vs : List Value) (w : World) (b o : Nat) (t : TypeId) (cs : Array Value), w.heap[b]? = some (.cells cs t (0, 0)) → (w.setCells b o vs).heap[b]? = some (.cells (setArr cs o vs) t (0, 0))
  | [], _, _, _, _, _, h => h
  | v :: r, w, b, o, t, cs, h => setCells_arr r (w.setCell ⟨b, o, none⟩ v) b (o + 1) t _ (heap_setCell_same w b o cs t v h)

theorem there10 {w : World} {b : Nat} {t : TypeId} {c : Array Value} (h : w.heap[b]? = some (.cells c t (0, 0))) (hc : 10 ≤ c.size) : w.there b 0 10 := fun j hj => by
  rw [Nat.zero_add]
  exact ⟨by rw [cell_of_row _ _ _ _ _ _ h, Array.getElem?_eq_getElem (by omega)]; rfl, frozen_of_row _ _ _ _ _ h⟩

theorem at_block {w : World} {b : Nat} {t : TypeId} {e : Ev} (h : w.heap[b]? = some (.cells (evCells e).toArray t (0, 0))) : At w b 0 e :=
  at_of_range fun r v hv => by rw [Nat.zero_add, cell_of_row _ _ _ _ _ _ h]; simpa using hv

theorem QAt_same {B Q : Nat} {R : Option Nat} {a b : World} {L : List Ev} {s : Int} (h : QAt B Q R a L s) (hQ : b.heap[Q]? = a.heap[Q]?) (hR : ∀ q, R = some q → b.heap[q]? = a.heap[q]?) : QAt B Q R b L s := by
  obtain ⟨ao, cap, xs, hq, hown, hrow, hO, hRQ⟩ := h
  refine ⟨ao, cap, xs, hQ.trans hq, ⟨hown.1, ?_⟩, hrow, hO, hRQ⟩
  rcases hown.2 with h | ⟨q, c, cur, hv, hb, hg, r⟩
  · exact .inl h
  · exact .inr ⟨q, c, cur, hv, hb, (hR q (by rw [← hO, hv]; rfl)).trans hg, r⟩

theorem inv2_step {w w5 wx wy : World} {ats st : Nat → Int} {N SB PB j : Nat} {R : Option Nat} {P M M3 : List Ev} {bs : Array Value} {got : Ev} {v0 v1 v2 v3 v4 v5 v6 v7 v8 v9 : Value}
    (hgot : g M 0 = got) (hseq : got.seq = (j : Int)) (hj : j < N) (hq : QAt w.heap.size w.heap.size R w5 M3 (N : Int)) (hle : DrainPlain.Left ats st N P M) (hp : M.Perm (got :: M3)) (hh : Heap M3) (hb : Below w.heap.size w w5)
    (hSB : w5.heap[SB]? = some (.cells bs 4 (0, 0))) (hsz : bs.size = N) (hseen : ∀ j, j < N → ∃ c, bs[j]? = some (.bool c) ∧ (c = true ↔ ∃ y ∈ P, y.seq = (j : Int)))
    (hPB : w5.heap[PB]? = some (.cells #[v0, v1, v2, v3, v4, v5, v6, v7, v8, v9] 41 (0, 0))) (hS : w.heap.size < SB) (hPw : SB < PB) (hRl : ∀ q, R = some q → q < SB)
    (hx : Below w5.heap.size w5 wx) (h1 : wy.heap = (wx.setCell ⟨SB, j, none⟩ (.bool true)).heap) (h2 : wy.os = wx.os) (h3 : wy.tape = wx.tape) (h4 : wy.output = wx.output) :
    Inv2 w ats st N SB PB R (P ++ [got]) M3 (wy.setCells PB 0 (evCells got)) := by
  have hfr := setCells_frame (evCells got) wy PB 0
  have oth : ∀ i, i < w5.heap.size → i ≠ SB → i ≠ PB → (wy.setCells PB 0 (evCells got)).heap[i]? = w5.heap[i]? := fun i hi e1 e2 => by
    rw [setCells_other _ _ _ _ _ e2, h1, heap_setCell_other _ _ _ _ (by simpa using e1), hx.block i hi]
  have l1 := lt_of_block hSB
  have l2 := lt_of_block hPB
  have hxS : wx.heap[SB]? = some (.cells bs 4 (0, 0)) := (hx.block SB l1).trans hSB
  have hyS : wy.heap[SB]? = some (.cells (bs.setIfInBounds j (.bool true)) 4 (0, 0)) := by rw [h1]; exact heap_setCell_same _ _ _ _ _ _ hxS
  have hyP : wy.heap[PB]? = some (.cells #[v0, v1, v2, v3, v4, v5, v6, v7, v8, v9] 41 (0, 0)) := by rw [h1, heap_setCell_other _ _ _ _ (by simp; omega), hx.block PB l2]; exact hPB
  have hQl : w.heap.size < w5.heap.size := by omega
  have hys : wy.heap.size = wx.heap.size := by rw [h1]; simp [World.setCell]
  subst hgot
  refine ⟨QAt_same hq (oth _ hQl (by omega) (by omega)) (fun q e => oth q (by have := hRl q e; omega) (by have := hRl q e; omega) (by have := hRl q e; omega)), hle.step hp hh, ?_, ⟨bs.setIfInBounds j (.bool true), ?_, by simpa using hsz, ?_⟩, ?_⟩
  · refine hb.trans ⟨hfr.1.trans (h2.trans hx.os), hfr.2.1.trans (h3.trans hx.tape), hfr.2.2.1.trans (h4.trans hx.output), by rw [hfr.2.2.2, hys]; exact hx.size, fun i hi => oth i (by omega) (by omega) (by omega)⟩
  · rw [setCells_other _ _ _ _ _ (by omega)]; exact hyS
  · intro i hi
    obtain ⟨c, e1, e2⟩ := hseen i hi
    by_cases hij : i = j
    · subst hij
      refine ⟨true, by rw [Array.getElem?_setIfInBounds_self_of_lt (by omega)], ?_⟩
      simp only [true_iff]
      exact ⟨g M 0, by simp, hseq⟩
    · refine ⟨c, by rw [Array.getElem?_setIfInBounds_ne (by omega)]; exact e1, ?_⟩
      rw [e2]
      constructor
      · rintro ⟨y, hy, hs⟩
        exact ⟨y, List.mem_append_left _ hy, hs⟩
      · rintro ⟨y, hy, hs⟩
        rcases List.mem_append.1 hy with hy | hy
        · exact ⟨y, hy, hs⟩
        · simp only [List.mem_singleton] at hy
          subst hy
          rw [hseq] at hs
          omega
  · have e := setCells_arr (evCells (g M 0)) wy PB 0 _ _ hyP
    refine ⟨.int .i64 (g M 0).t, .int .u8 (g M 0).st, .int .u32 0, .int .i64 (g M 0).cu, .int .u64 (g M 0).seq, .pointer none, .pointer none, .pointer none, .pointer none, .pointer none, ?_, fun y hy => ?_⟩
    · rw [e]
      simp [setArr, evCells]
    · rw [List.getLast?_concat] at hy
      simp only [Option.some.injEq] at hy
      subst hy
      rfl

set_option maxRecDepth 100000 in
set_option maxHeartbeats 2000000 in
theorem walk (ka kb : Option Addr) (N cap0 len1 cap1 b off b1 off1 : Nat) (ats sts : Nat → Int) (w : World) (hN : N ≤ 1024) (hka : 0 < N → ka = some ⟨b, off, none⟩) (hca : ∀ j, j < N → w.cell? ⟨b, off + j, none⟩ = some (.int .i64 (ats j)))
    (hkb : 0 < len1 → kb = some ⟨b1, off1, none⟩) (hcb : ∀ j, j < len1 → w.cell? ⟨b1, off1 + j, none⟩ = some (.int .u8 (sts j))) (hl1 : len1 ≤ 9223372036854775807) :
    Calls Yba.prog 4 #[.slice ka N cap0, .slice kb len1 cap1] w fun e w' => e = .returned (.bool true) ∧ Below w.heap.size w w' := by
  obtain ⟨i4, hi, hz0, hz1, hz2⟩ := info_parts info4
  have HKA := hide hka
  have HCA := hide hca
  have HKB := hide hkb
  have HCB := hide hcb
  clear hka hca hkb hcb
  go_enter Yba.func4, Yba.ntmps4
  go_wp2_with fail
  go_loopw [6] (fun q wr => ∃ k : Nat, k ≤ N ∧ q = .int .i64 k ∧ Inv1 w ats (stOf sts len1) k wr) (fun q _ => N - (intOf q).toNat)
  case atStart =>
    refine ⟨0, Nat.zero_le _, rfl, none, [], ?_, fun k _ hk => absurd hk (by simp), List.Perm.refl _, (Below.refl _ _).alloc (Nat.le_refl _) _, fun q h => by simp at h⟩
    exact ⟨none, 0, [], heap_alloc_new _ _, World.ownsRow_nil _ _ _ _, fun i r v hi => absurd hi (by simp), rfl, by simp⟩
  case round =>
    obtain ⟨k, hk, rfl, hI⟩ := hrel
    by_cases hlt : k < N
    · obtain ⟨R, M, hq, hh, hp, hbel, hR⟩ := hI
      obtain rfl := HKA.out (by omega)
      have ca := (hbel.cell (p := ⟨b, off + k, none⟩) (block_lt_of_cell (HCA.out k hlt))).trans (HCA.out k hlt)
      have hML : M.length = k := by rw [hp.length_eq, evs_length]
      have HQ := hide hq
      have HH := hide hh
      have HP := hide hp
      have HB := hide hbel
      have HR := hide hR
      have HML := hide hML
      clear hq hh hp hbel hR hML
      by_cases h1 : 0 < len1
      · obtain rfl := HKB.out h1
        have hm : k % len1 < len1 := Nat.mod_lt _ h1
        have cb := (HB.out.cell (p := ⟨b1, off1 + k % len1, none⟩) (block_lt_of_cell (HCB.out _ hm))).trans (HCB.out _ hm)
        have hst : stOf sts len1 k = sts (k % len1) := by unfold stOf; rw [if_neg (by omega)]
        have HST := hide hst
        clear hst
        have m1 : (k : Int) % (len1 : Int) < (len1 : Int) := by omega
        have m0 : (0 : Int) ≤ (k : Int) % (len1 : Int) := by omega
        have m2 : ((k : Int) % (len1 : Int)).toNat = k % len1 := by omega
        go_wp2_with fail
        refine (Push.push_any w.heap.size w.heap.size R wr M (k : Int) 0 ⟨ats k, sts (k % len1), 0, 0⟩ HQ.out HB.out.size (by rw [HML.out]; omega) (by omega) (by omega) HH.out).mono ?_
        rintro e w2 ⟨rfl, R', M', hq', hh', hp', hk', hn'⟩
        have HS := hide (Inv1.step HR.out HB.out.size HB.out HP.out hq' hh' (by rw [HST.out]; exact hp') hk' hn')
        clear hq' hh' hp' hk' hn' ca cb
        go_wp2_with fail
        go_roundw
        case rel => exact ⟨k + 1, by omega, by go_num, HS.out⟩
        case measure => simp [intOf]; omega
      · obtain rfl : len1 = 0 := by omega
        have hst : stOf sts 0 k = 0 := by unfold stOf; rw [if_pos rfl]
        have HST := hide hst
        clear hst
        go_wp2_with fail
        refine (Push.push_any w.heap.size w.heap.size R wr M (k : Int) 0 ⟨ats k, 0, 0, 0⟩ HQ.out HB.out.size (by rw [HML.out]; omega) (by omega) (by omega) HH.out).mono ?_
        rintro e w2 ⟨rfl, R', M', hq', hh', hp', hk', hn'⟩
        have HS := hide (Inv1.step HR.out HB.out.size HB.out HP.out hq' hh' (by rw [HST.out]; exact hp') hk' hn')
        clear hq' hh' hp' hk' hn' ca
        go_wp2_with fail
        go_roundw
        case rel => exact ⟨k + 1, by omega, by go_num, HS.out⟩
        case measure => simp [intOf]; omega
    · obtain rfl : k = N := by omega
      obtain ⟨R, M, hq, hh, hp, hbel, hR⟩ := hI
      have HQ := hide hq
      have HH := hide hh
      have HP := hide hp
      have HB := hide hbel
      have HR := hide hR
      clear hq hh hp hbel hR
      go_wp2_with (at_make; refine wpList_make_full _ rfl _ _ 28 rfl w.heap.size 4 i4 _ 1 Yba.underlying28 hi hz0 hz1 _ _ _ _ k rfl rfl (by omega) (by omega) (by rw [hz2]; omega) (by unfold maxLen; omega) HB.out.size ?_; intro w3 hown3 hgr3; have HO3 := hide hown3; have HG3 := hide hgr3; clear hown3 hgr3)
      have ho3 := HO3.out
      rw [Nat.mul_one] at ho3
      obtain ⟨wo, hwo⟩ : ∃ wo : World, wo = wr := ⟨_, rfl⟩
      subst hwo
      obtain ⟨h3lt, hRl, hinv⟩ := inv2_start (ats := ats) (st := stOf sts len1) HQ.out HH.out HP.out HB.out ho3 HG3.out
      have HV := hide hinv
      have HRl := hide hRl
      have hosz : w.heap.size < wo.heap.size := by obtain ⟨_, _, _, h, _⟩ := HQ.out; exact lt_of_block h
      clear hinv hRl ho3 HO3 HG3 hi hz0 hz1 hz2
      go_loopw [10] (fun q wr => ∃ (n : Nat) (P M : List Ev), n ≤ k ∧ q = .int .i64 n ∧ P.length = n ∧ Inv2 w ats (stOf sts len1) k wo.heap.size w3.heap.size R P M wr) (fun q _ => k - (intOf q).toNat)
      case atStart => exact ⟨0, [], M, Nat.zero_le _, rfl, rfl, HV.out⟩
      case round =>
        obtain ⟨n, P, M2, hn, rfl, hP, hI⟩ := hrel
        clear HV HQ HH HP HB
        have hlen : P.length + M2.length = k := by
          have := hI.2.1.1.length_eq
          rw [evs_length, List.length_append] at this
          exact this
        by_cases hlt2 : n < k
        · obtain ⟨hq, hleft, hbel, ⟨bs, hbs, hbsz, hseen⟩, ⟨v0, v1, v2, v3, v4, v5, v6, v7, v8, v9, hpb, hprev⟩⟩ := hI
          obtain ⟨j, hj, hgj, hnot, hlast⟩ := hleft.first (by omega)
          obtain rfl := HKA.out (by omega)
          obtain ⟨m, hm⟩ : ∃ m, M2.length = m + 1 := ⟨M2.length - 1, by omega⟩
          have HQ := hide hq
          have HLE := hide hleft
          have HBE := hide hbel
          have HBS := hide hbs
          have HBZ := hide hbsz
          have HSE := hide hseen
          have HPB := hide hpb
          have HPR := hide hprev
          have HGJ := hide hgj
          have HNO := hide hnot
          have HLA := hide hlast
          have HM := hide hm
          have HLN := hide hlen
          have HPL := hide hP
          have hml : (M2.length : Int) = (k : Int) - (n : Int) := by omega
          have HML := hide hml
          have hmb : m ≤ 2000 := by omega
          clear hq hleft hbel hbs hbsz hseen hpb hprev hgj hnot hlast hm hlen hP hml
          go_wp2_with fail
          refine (len_int w.heap.size w.heap.size R wr M2 (k : Int) ((k : Int) - (n : Int)) HQ.out HML.out).mono ?_
          rintro e w4 ⟨rfl, hw4⟩
          obtain rfl : wr = w4 := hw4.symm
          go_wp2_with fail
          refine (pop_lit w.heap.size w.heap.size R wr M2 m (k : Int) ⟨ats j, stOf sts len1 j, 0, (j : Int)⟩ HGJ.out HQ.out HM.out hmb HLE.out.2.1).mono ?_
          rintro e w5 ⟨rfl, M3, hq3, hh3, hp3, hk3⟩
          have hlb1 := lt_of_block HBS.out
          have hlb2 := lt_of_block HPB.out
          have hSB : w5.heap[wo.heap.size]? = some (.cells bs 4 (0, 0)) := (hk3.block _ hlb1 (by omega) (fun e => by have := HRl.out _ e.symm; omega)).trans HBS.out
          have hPB : w5.heap[w3.heap.size]? = some (.cells #[v0, v1, v2, v3, v4, v5, v6, v7, v8, v9] 41 (0, 0)) := (hk3.block _ hlb2 (by omega) (fun e => by have := HRl.out _ e.symm; omega)).trans HPB.out
          have hbel5 : Below w.heap.size w w5 := HBE.out.trans (hk3.below HBE.out.size (Nat.le_refl _) HR.out)
          have cs : w5.cell? ⟨wo.heap.size, j, none⟩ = some (.bool false) := by
            obtain ⟨c, h1, h2⟩ := HSE.out j hj
            have : c = false := by
              cases c with
              | false => rfl
              | true => obtain ⟨y, hy, hs⟩ := h2.1 rfl; exact absurd hs (HNO.out y hy)
            rw [cell_of_row _ _ _ _ _ _ hSB, h1, this]
          have fs : w5.frozen? ⟨wo.heap.size, j, none⟩ = false := frozen_of_row _ _ _ _ _ hSB
          have ca := cell_later hbel5 (HCA.out j hj)
          have p0 : w5.cell? ⟨w3.heap.size, 0, none⟩ = some v0 := by rw [cell_of_row _ _ _ _ _ _ hPB]; rfl
          have p1 : w5.cell? ⟨w3.heap.size, 1, none⟩ = some v1 := by rw [cell_of_row _ _ _ _ _ _ hPB]; rfl
          have p2 : w5.cell? ⟨w3.heap.size, 2, none⟩ = some v2 := by rw [cell_of_row _ _ _ _ _ _ hPB]; rfl
          have p3 : w5.cell? ⟨w3.heap.size, 3, none⟩ = some v3 := by rw [cell_of_row _ _ _ _ _ _ hPB]; rfl
          have p4 : w5.cell? ⟨w3.heap.size, 4, none⟩ = some v4 := by rw [cell_of_row _ _ _ _ _ _ hPB]; rfl
          have p5 : w5.cell? ⟨w3.heap.size, 5, none⟩ = some v5 := by rw [cell_of_row _ _ _ _ _ _ hPB]; rfl
          have p6 : w5.cell? ⟨w3.heap.size, 6, none⟩ = some v6 := by rw [cell_of_row _ _ _ _ _ _ hPB]; rfl
          have p7 : w5.cell? ⟨w3.heap.size, 7, none⟩ = some v7 := by rw [cell_of_row _ _ _ _ _ _ hPB]; rfl
          have p8 : w5.cell? ⟨w3.heap.size, 8, none⟩ = some v8 := by rw [cell_of_row _ _ _ _ _ _ hPB]; rfl
          have p9 : w5.cell? ⟨w3.heap.size, 9, none⟩ = some v9 := by rw [cell_of_row _ _ _ _ _ _ hPB]; rfl
          have fp : ∀ r, w5.frozen? ⟨w3.heap.size, r, none⟩ = false := fun r => frozen_of_row _ _ _ _ _ hPB
          have z1 := lt_of_block hSB
          have z2 := lt_of_block hPB
          have z3 := block_lt_of_cell ca
          have HQ3 := hide hq3
          have HH3 := hide hh3
          have HP3 := hide hp3
          have HK3 := hide hk3
          have HSB := hide hSB
          have HPB5 := hide hPB
          have HB5 := hide hbel5
          clear hq3 hh3 hp3 hk3 hSB hPB hbel5 hlb1 hlb2
          by_cases hn0 : 0 < n
          · obtain ⟨y, hy⟩ : ∃ y, P.getLast? = some y := by
              cases h : P.getLast? with
              | none => have := HPL.out; simp at h; subst h; simp at this; omega
              | some y => exact ⟨y, rfl⟩
            have hv := HPR.out y hy
            simp only [evCells, List.cons.injEq, and_true] at hv
            obtain ⟨rfl, rfl, rfl, rfl, rfl, rfl, rfl, rfl, rfl, rfl⟩ := hv
            have hyl := HLA.out y hy
            rw [HGJ.out] at hyl
            have HYL := hide hyl
            have HY := hide hy
            clear hyl hy
            go_wp2_with fail
            go_quiet (fail)
            go_wp2_with fail
            have hbw : Below w5.heap.size w5 ((w5.alloc (.cells #[.int .i64 (ats j), .int .u8 (stOf sts len1 j), .int .u32 0, .int .i64 0, .int .u64 (j : Int), .pointer none, .pointer none, .pointer none, .pointer none, .pointer none] 41)).drewN nq) := below_drewN ((Below.refl _ _).alloc (Nat.le_refl _) _) _
            refine (less_any _ w3.heap.size 0 w5.heap.size 0 y ⟨ats j, stOf sts len1 j, 0, (j : Int)⟩ ?ha ?hb true (by simp [HYL.out])).mono ?_
            case ha =>
              refine at_block (t := 41) ?_
              rw [heap_setCell_other _ _ _ _ (by simp; omega)]
              exact (hbw.block _ z2).trans HPB5.out
            case hb =>
              refine at_block (t := 41) ?_
              rw [heap_setCell_other _ _ _ _ (by simp; omega)]
              exact heap_alloc_new w5 _
            rintro e w6 ⟨rfl, nn, hw6⟩
            subst hw6
            go_wp2_with (first | (refine Pop.wpList_store_stop rfl 41 (.tmp 9) (.tmp 91) rfl ?_) | fail)
            refine ⟨1, rfl, ?_⟩
            refine Pop.wpList_store_at rfl 41 (.tmp 9) (.tmp 91) rfl w3.heap.size 0 10 (evCells ⟨ats j, stOf sts len1 j, 0, (j : Int)⟩) (evLen _) ?hx ?hy ?hi ?h1 ?ht ?_
            case hx => rfl
            case hy => rfl
            case hi => exact Pop.hi41
            case h1 => exact Pop.evOne _
            case ht =>
              refine there10 (t := 41) (c := (evCells y).toArray) ?_ (by simp [evCells])
              show (((w5.alloc _).drewN nq).setCell _ _).heap[_]? = _
              rw [heap_setCell_other _ _ _ _ (by simp; omega)]
              exact (hbw.block _ z2).trans HPB5.out
            refine Pop.wpList_letter (fun wF => Inv2 w ats (stOf sts len1) k wo.heap.size w3.heap.size R (P ++ [⟨ats j, stOf sts len1 j, 0, (j : Int)⟩]) M3 wF) ?_ ?_
            · exact inv2_step HGJ.out rfl hj HQ3.out HLE.out HP3.out HH3.out HB5.out HSB.out HBZ.out HSE.out HPB5.out hosz h3lt HRl.out hbw rfl rfl rfl rfl
            intro wF hF
            have HF := hide hF
            clear hF hbw
            go_wp2_with fail
            go_roundw
            case rel => exact ⟨n + 1, _, _, by omega, by go_num, by rw [List.length_append, HPL.out]; rfl, HF.out⟩
            case measure => simp [intOf]; omega
          · obtain rfl : n = 0 := by omega
            go_wp2_with fail
            go_quiet (fail)
            go_wp2_with (first | (refine Pop.wpList_store_stop rfl 41 (.tmp 9) (.tmp 91) rfl ?_) | fail)
            refine ⟨1, rfl, ?_⟩
            refine Pop.wpList_store_at rfl 41 (.tmp 9) (.tmp 91) rfl w3.heap.size 0 10 (evCells ⟨ats j, stOf sts len1 j, 0, (j : Int)⟩) (evLen _) ?hx ?hy ?hi ?h1 ?ht ?_
            case hx => rfl
            case hy => rfl
            case hi => exact Pop.hi41
            case h1 => exact Pop.evOne _
            case ht =>
              refine there10 (t := 41) (c := #[v0, v1, v2, v3, v4, v5, v6, v7, v8, v9]) ?_ (by simp)
              rw [heap_setCell_other _ _ _ _ (by simp; omega)]
              exact (below_drewN ((Below.refl _ _).alloc (Nat.le_refl _) _) _ : Below w5.heap.size w5 _).block _ z2 |>.trans HPB5.out
            refine Pop.wpList_letter (fun wF => Inv2 w ats (stOf sts len1) k wo.heap.size w3.heap.size R (P ++ [⟨ats j, stOf sts len1 j, 0, (j : Int)⟩]) M3 wF) ?_ ?_
            · exact inv2_step HGJ.out rfl hj HQ3.out HLE.out HP3.out HH3.out HB5.out HSB.out HBZ.out HSE.out HPB5.out hosz h3lt HRl.out (below_drewN ((Below.refl _ _).alloc (Nat.le_refl _) _) _) rfl rfl rfl rfl
            intro wF hF
            have HF := hide hF
            clear hF
            go_wp2_with fail
            go_roundw
            case rel => exact ⟨1, _, _, by omega, by go_num, by rw [List.length_append, HPL.out]; rfl, HF.out⟩
            case measure => simp [intOf]; omega
        · obtain rfl : n = k := by omega
          go_wp2_with fail
          refine (len_int w.heap.size w.heap.size R wr M2 (n : Int) 0 hI.1 (by omega)).mono ?_
          rintro e w4 ⟨rfl, rfl⟩
          go_wp2_with fail
          go_ret
          exact ⟨rfl, hI.2.2.1⟩

set_option maxRecDepth 100000 in
set_option maxHeartbeats 400000 in
theorem walk_big (ka : Option Addr) (len cap : Nat) (v : Value) (w : World) (hl : 1024 < len) :
    Calls Yba.prog 4 #[.slice ka len cap, v] w fun e w' => e = .returned (.bool true) ∧ Below w.heap.size w w' := by
  go_enter Yba.func4, Yba.ntmps4
  go_wp2_with fail
  go_ret
  exact ⟨rfl, Below.refl _ _⟩

end Go.Proofs.Ybulkmvu.Drain
