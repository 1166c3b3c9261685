/-
  '(*eventQueue).pop'.
-/
import Derived.Test.YbulkmvuPush
namespace Go.Proofs.Ybulkmvu.Pop
open Go.RowKit Go.Proofs.Ybulkmvu.Ev Go.Proofs.Ybulkmvu.Heap Go.Proofs.Ybulkmvu.Queue Go.Proofs.Ybulkmvu.Push

def zeroEv : Ev := ⟨0, 0, 0, 0⟩

theorem exit_letter {K : Act → World → Prop} {Q' : Exit → Act → World → Prop} {a : Act} {w : World} (F : World → Prop) (hF : F w) (h : ∀ w', F w' → Exit.then K Q' .normal a w') : Exit.then K Q' .normal a w := h w hF
theorem wpList_letter {P : Program} {ops : Array Oper} {rest : List Oper} {a : Act} {w : World} {Q : Exit → Act → World → Prop} (F : World → Prop) (hF : F w) (h : ∀ w', F w' → wpList P ops Q rest a w') : wpList P ops Q rest a w := h w hF
theorem wpList_store_stop {P : Program} {ops : Array Oper} {rest : List Oper} {op : Oper} {a : Act} {w : World} {Q : Exit → Act → World → Prop} (_hgd : op.guard = none) (ty : TypeId) (x y : Operand) (_ho : op.op = .store ty x y)
    (h : ∃ n : Nat, n = 1 ∧ wpList P ops Q (op :: rest) a w) : wpList P ops Q (op :: rest) a w := h.elim fun _ h => h.2
theorem wpList_store_at {P : Program} {ops : Array Oper} {rest : List Oper} {op : Oper} {a : Act} {w : World} {Q : Exit → Act → World → Prop} (hgd : op.guard = none) (ty : TypeId) (x y : Operand) (ho : op.op = .store ty x y)
    (b o n : Nat) (cells : List Value) (hn : cells.length = n) (hx : a.eval x = .pointer (some ⟨b, o, none⟩)) (hy : a.eval y = .agg cells.toArray)
    (hi : (P.info? ty).map (·.size) = some n) (h1 : cells.toArray.all (·.oneCell') = true) (ht : w.there b o n)
    (h : wpList P ops Q rest (a.put op.dst undef) (w.setCells b o cells)) : wpList P ops Q (op :: rest) a w :=
  wpList_store_mid hgd ty x y ho b o cells.toArray hx hy (by simpa [hn] using ht) (by simpa [hn] using hi) h1 (by simpa using h)

theorem hi41 : (Yba.prog.info? 41).map (·.size) = some 10 := by kernel_rfl
theorem evOne (e : Ev) : (evCells e).toArray.all (·.oneCell') = true := by
  simp only [evCells, List.all_toArray, List.all_cons, List.all_nil]
  rfl

/-- The two blocks of the call's own: the result's, the first event's. -/
def Own (w : World) (ea : Ev) (wr : World) : Prop := wr.heap[w.heap.size]? = some (.cells #[.int .i64 0, .int .u8 0, .int .u32 0, .int .i64 0, .int .u64 0, .pointer none, .pointer none, .pointer none, .pointer none, .pointer none] 41 (0, 0)) ∧ wr.heap[w.heap.size + 1]? = some (.cells (evCells ea).toArray 41 (0, 0))

theorem Own.kq {w wr wr' : World} {ea : Ev} {Q : Nat} {R : Option Nat} (h : Own w ea wr) (hQ : Q < w.heap.size) (hR : ∀ q, R = some q → q < w.heap.size) (k : Kq Q R wr wr') : Own w ea wr' := by
  have l1 := lt_of_block h.1
  have l2 := lt_of_block h.2
  exact ⟨by rw [k.block _ l1 (by omega) (fun e => by have := hR _ e.symm; omega)]; exact h.1, by rw [k.block _ l2 (by omega) (fun e => by have := hR _ e.symm; omega)]; exact h.2⟩

theorem QAt.there {B Q : Nat} {R : Option Nat} {w : World} {L : List Ev} {s : Int} (h : QAt B Q R w L s) {q : Nat} (hR : R = some q) (i : Nat) (hi : i < L.length) : w.there q (i * 10) 10 ∧ w.rangeAt q (i * 10) (evCells (g L i)) ∧ (∃ cap, L.length ≤ cap ∧ w.cell? ⟨Q, 0, none⟩ = some (.slice (some ⟨q, 0, none⟩) L.length cap)) ∧ ∀ r, w.frozen? ⟨Q, r, none⟩ = false ∧ w.frozen? ⟨q, r, none⟩ = false := by
  obtain ⟨ao, cap, xs, hQ, hown, hrow, hO, hRQ⟩ := h
  subst hR
  have hao : ao = some ⟨q, 0, none⟩ := by
    obtain ⟨q', cg, hv, _, _⟩ := hown.form (by omega)
    simp only [Value.slice.injEq] at hv
    rw [hv.1] at hO
    simp only [Value.ownBlock, Option.some.injEq] at hO
    rw [hv.1, hO]
  subst hao
  have hr := evAt hown hrow rfl i hi
  refine ⟨fun j hj => ⟨hr.isSome j (by rw [evLen]; exact hj), hown.frozenAt _⟩, hr, ⟨cap, ?_, by rw [cell_of_row _ _ _ _ _ _ hQ]; rfl⟩, fun r => ⟨frozen_of_row _ _ _ _ _ hQ, hown.frozenAt _⟩⟩
  rcases hown.2 with ⟨h, _⟩ | ⟨_, c, _, hv, _, _, hc, _⟩
  · simp at h
  · simp only [Value.slice.injEq] at hv
    omega

/-- The queue cut to its first n events. -/
theorem QAt.cut {B Q : Nat} {R : Option Nat} {w : World} {L : List Ev} {s : Int} (h : QAt B Q R w L s) {q cap : Nat} (hR : R = some q) (n : Nat) (hn : n < L.length) (hc : w.cell? ⟨Q, 0, none⟩ = some (.slice (some ⟨q, 0, none⟩) L.length cap)) :
    QAt B Q R (w.setCell ⟨Q, 0, none⟩ (.slice (some ⟨q, 0, none⟩) n cap)) (L.take n) s ∧ Kq Q R w (w.setCell ⟨Q, 0, none⟩ (.slice (some ⟨q, 0, none⟩) n cap)) := by
  obtain ⟨ao, cap', xs, hQ, hown, hrow, hO, hRQ⟩ := h
  subst hR
  rw [cell_of_row _ _ _ _ _ _ hQ] at hc
  simp at hc
  obtain ⟨rfl, rfl⟩ := hc
  have hlen : (L.take n).length = n := by simp; omega
  refine ⟨⟨some ⟨q, 0, none⟩, cap', xs.take (n * 10), ?_, ?_, ?_, rfl, hRQ⟩, ⟨rfl, rfl, rfl, by simp [World.setCell], fun k _ h1 _ => heap_setCell_other _ _ _ _ (by simpa using h1)⟩⟩
  · rw [heap_setCell_same _ _ _ _ _ _ hQ, hlen]; simp
  · rw [hlen]
    refine ownsRow_setCell_other ?_ (by simpa [Value.ownBlock] using fun e => hRQ (by rw [e])) _
    rcases hown.2 with ⟨h, _⟩ | ⟨q', c, cur, hv, hb, hg, hnc, hcm, hcs, htake⟩
    · simp at h
    · simp only [Value.slice.injEq, Option.some.injEq, Addr.mk.injEq, and_true, true_and] at hv
      obtain ⟨rfl, rfl⟩ := hv
      have hx := hown.1
      refine ⟨by simp; omega, .inr ⟨q, cap', cur, rfl, hb, hg, by omega, hcm, hcs, ?_⟩⟩
      rw [← htake, List.take_take]
      congr 1
      omega
  · intro i r v hi hv
    rw [hlen] at hi
    have hr : r < 10 := (List.getElem?_eq_some_iff.1 hv).1
    rw [g_take _ _ _ hi] at hv
    rw [List.getElem?_take, if_pos (by omega)]
    exact hrow i r v (by omega) hv

/-- The result's own block written: nothing of the queue turns. -/
theorem _root_.Go.Proofs.Ybulkmvu.Queue.QAt.own {B Q : Nat} {R : Option Nat} {w wr : World} {M : List Ev} {s : Int} (h : QAt B Q R wr M s) (hQ : Q < w.heap.size) (hR : ∀ q, R = some q → q < w.heap.size) (k : Kq Q R w wr) (vs : List Value) :
    QAt B Q R (wr.setCells w.heap.size 0 vs) M s ∧ Kq Q R w (wr.setCells w.heap.size 0 vs) := by
  obtain ⟨ao, cap, xs, hq, hown, hrow, hO, hRQ⟩ := h
  have hfr := setCells_frame vs wr w.heap.size 0
  have hsame : ∀ i, i ≠ w.heap.size → (wr.setCells w.heap.size 0 vs).heap[i]? = wr.heap[i]? := fun i hi => setCells_other _ _ _ _ _ hi
  refine ⟨⟨ao, cap, xs, by rw [hsame Q (by omega)]; exact hq, ?_, hrow, hO, hRQ⟩, ⟨hfr.1.trans k.os, hfr.2.1.trans k.tape, hfr.2.2.1.trans k.output, by rw [hfr.2.2.2]; exact k.size, fun i hi h1 h2 => (hsame i (by omega)).trans (k.block i hi h1 h2)⟩⟩
  refine ⟨hown.1, ?_⟩
  rcases hown.2 with h | ⟨q, c, cur, hv, hb, hg, r⟩
  · exact .inl h
  · refine .inr ⟨q, c, cur, hv, hb, ?_, r⟩
    rw [hsame q]
    · exact hg
    · have : R = some q := by rw [← hO, hv]; rfl
      have := hR q this
      omega

theorem swap_drew {B Q : Nat} {R : Option Nat} {w wr : World} {M : List Ev} {s : Int} {ea : Ev} {q : Nat} (h : QAt B Q R wr M s) (hR : R = some q) (k : Kq Q R w wr) (ho : Own w ea wr) (hQ : Q < w.heap.size) (hq : q < w.heap.size) (i j : Nat) (hi : i < M.length) (hj : j < M.length) :
    QAt B Q R ((wr.setCells q (i * 10) (evCells (g M j))).setCells q (j * 10) (evCells (g M i))).drew (swap M i j) s ∧ Own w ea ((wr.setCells q (i * 10) (evCells (g M j))).setCells q (j * 10) (evCells (g M i))).drew ∧ Kq Q R w ((wr.setCells q (i * 10) (evCells (g M j))).setCells q (j * 10) (evCells (g M i))).drew := by
  obtain ⟨h1, h2⟩ := swap_world h hR i j hi hj
  generalize (wr.setCells q (i * 10) (evCells (g M j))).setCells q (j * 10) (evCells (g M i)) = S at *
  have hd : Below S.heap.size S S.drew := (Below.refl _ _).drew
  have h3 : Kq Q R wr S.drew := h2.trans (Kq.of_below (R := R) hd) (.inl rfl)
  exact ⟨h1.of_below hd, ho.kq hQ (fun q' e => by rw [hR] at e; simp only [Option.some.injEq] at e; subst e; exact hq) h3, k.trans h3 (.inl rfl)⟩

/-- l is the least of i and of its first c children. -/
def Least (M : List Ev) (i l c : Nat) : Prop :=
  (l = i ∨ 0 < l ∧ l < M.length ∧ (l - 1) / 2 = i ∧ Lt (g M l) (g M i)) ∧ (1 ≤ c → 2 * i + 1 < M.length → ¬ Lt (g M (2 * i + 1)) (g M l)) ∧ (2 ≤ c → 2 * i + 2 < M.length → ¬ Lt (g M (2 * i + 2)) (g M l))

theorem least_start (M : List Ev) (i : Nat) : Least M i i 0 := ⟨.inl rfl, fun h => absurd h (by omega), fun h => absurd h (by omega)⟩

theorem least_yes {M : List Ev} {i l c : Nat} (h : Least M i l c) (hc : c < 2) (hk : 2 * i + 1 + c < M.length) (hlt : Lt (g M (2 * i + 1 + c)) (g M l)) : Least M i (2 * i + 1 + c) (c + 1) := by
  obtain ⟨h1, h2, h3⟩ := h
  have hli : Lt (g M (2 * i + 1 + c)) (g M i) := by
    rcases h1 with rfl | ⟨_, _, _, h⟩
    · exact hlt
    · exact hlt.trans h
  refine ⟨.inr ⟨by omega, hk, by omega, hli⟩, fun _ hk1 => ?_, fun h4 _ => ?_⟩
  · by_cases h0 : c = 0
    · subst h0; exact Lt.irrefl _
    · exact fun hl => h2 (by omega) hk1 (hl.trans hlt)
  · obtain rfl : c = 1 := by omega
    exact Lt.irrefl _

theorem least_no {M : List Ev} {i l c : Nat} (h : Least M i l c) (hc : c < 2) (hlt : 2 * i + 1 + c < M.length → ¬ Lt (g M (2 * i + 1 + c)) (g M l)) : Least M i l (c + 1) := by
  obtain ⟨h1, h2, h3⟩ := h
  refine ⟨h1, fun _ hk1 => ?_, fun h4 hk2 => ?_⟩
  · by_cases h0 : c = 0
    · subst h0; exact hlt hk1
    · exact h2 (by omega) hk1
  · obtain rfl : c = 1 := by omega
    exact hlt hk2

theorem least_lt {M : List Ev} {i l c : Nat} (h : Least M i l c) (hi : i < M.length) : l < M.length := by
  rcases h.1 with rfl | ⟨_, h, _⟩
  · exact hi
  · exact h

theorem least_le {M : List Ev} {i l c : Nat} (h : Least M i l c) (hi : i < M.length ∨ i = 0) : l ≤ M.length := by
  rcases h.1 with rfl | ⟨_, h, _⟩
  · omega
  · omega

theorem least_end {M : List Ev} {i : Nat} (h : Least M i i 2) : ∀ k, 0 < k → k < M.length → (k - 1) / 2 = i → ¬ Lt (g M k) (g M i) := by
  intro k hk0 hk hp
  have : k = 2 * i + 1 ∨ k = 2 * i + 2 := by omega
  rcases this with rfl | rfl
  · exact h.2.1 (by omega) hk
  · exact h.2.2 (by omega) hk

theorem least_least {M : List Ev} {i l : Nat} (h : Least M i l 2) : ∀ k, 0 < k → k < M.length → (k - 1) / 2 = i → ¬ Lt (g M k) (g M l) := by
  intro k hk0 hk hp
  have : k = 2 * i + 1 ∨ k = 2 * i + 2 := by omega
  rcases this with rfl | rfl
  · exact h.2.1 (by omega) hk
  · exact h.2.2 (by omega) hk

theorem cut_eq {L : List Ev} {n : Nat} (hL : L.length = n + 1) (e z : Ev) (he : g L n = e) : ((L.set 0 e).set n z).take n = cut L := by
  unfold cut
  rw [hL, Nat.add_sub_cancel, he]
  apply List.ext_getElem?
  intro k
  rw [List.getElem?_take, List.getElem?_take]
  by_cases hk : k < n
  · rw [if_pos hk, if_pos hk, List.getElem?_set_ne (by omega)]
  · rw [if_neg hk, if_neg hk]

set_option maxRecDepth 100000 in
set_option maxHeartbeats 4000000 in
theorem pop_any (B Q : Nat) (R : Option Nat) (w : World) (L : List Ev) (n : Nat) (s : Int) (hq : QAt B Q R w L s) (hL : L.length = n + 1) (hn : n ≤ 2000) (hH : Heap L) :
    Calls Yba.prog 9 #[.pointer (some ⟨Q, 0, none⟩)] w fun r w' =>
      r = .returned (.agg (evCells (g L 0)).toArray) ∧ ∃ L', QAt B Q R w' L' s ∧ Heap L' ∧ L.Perm (g L 0 :: L') ∧ Kq Q R w w' := by
  have HQA := hide hq
  obtain ⟨ao, cap, xs, hQ, hown, hrow, hR, hRQ⟩ := hq
  obtain ⟨gb, rfl⟩ : ∃ gb, ao = some ⟨gb, 0, none⟩ := by
    obtain ⟨gb, cg, hv, _, _⟩ := hown.form (by omega)
    simp only [Value.slice.injEq] at hv
    exact ⟨gb, hv.1⟩
  have hncap : n + 1 ≤ cap := by
    rcases hown.2 with ⟨h, _⟩ | ⟨q, c, cur, hv, _, _, hc, _⟩
    · simp at h
    · simp only [Value.slice.injEq] at hv
      omega
  have c0 : w.cell? ⟨Q, 0, none⟩ = some (.slice (some ⟨gb, 0, none⟩) (n + 1) cap) := by rw [cell_of_row _ _ _ _ _ _ hQ, ← hL]; rfl
  have fq : ∀ r, w.frozen? ⟨Q, r, none⟩ = false := fun r => frozen_of_row _ _ _ _ _ hQ
  have fr : ∀ r, w.frozen? ⟨gb, r, none⟩ = false := fun r => hown.frozenAt r
  have r0 := evAt hown hrow rfl 0 (by omega)
  have rl := evAt hown hrow rfl n (by omega)
  have ca0 := r0 0 _ rfl
  have ca1 := r0 1 _ rfl
  have ca2 := r0 2 _ rfl
  have ca3 := r0 3 _ rfl
  have ca4 := r0 4 _ rfl
  have ca5 := r0 5 _ rfl
  have ca6 := r0 6 _ rfl
  have ca7 := r0 7 _ rfl
  have ca8 := r0 8 _ rfl
  have ca9 := r0 9 _ rfl
  have cl0 := rl 0 _ rfl
  have cl1 := rl 1 _ rfl
  have cl2 := rl 2 _ rfl
  have cl3 := rl 3 _ rfl
  have cl4 := rl 4 _ rfl
  have cl5 := rl 5 _ rfl
  have cl6 := rl 6 _ rfl
  have cl7 := rl 7 _ rfl
  have cl8 := rl 8 _ rfl
  have cl9 := rl 9 _ rfl
  simp only [Nat.add_zero, Nat.zero_mul, Nat.zero_add] at ca0 ca1 ca2 ca3 ca4 ca5 ca6 ca7 ca8 ca9 cl0
  have hQlt := lt_of_block hQ
  have hglt := block_lt_of_cell ca0
  have hgQ : gb ≠ Q := by
    intro e
    apply hRQ
    rw [← hR, ← e]
    rfl
  have hQg : Q ≠ gb := fun e => hgQ e.symm
  have HL := hide hL
  have HH := hide hH
  have HRE := hide hR
  clear hQ hown hrow hR hRQ hL hH r0 rl
  have b1 : (0 : Int) ≤ (n : Int) := by omega
  have b2 : (n : Int) < (n : Int) + 1 := by omega
  generalize hea : g L 0 = ea at *
  generalize hel : g L n = el at *
  have HEA := hide hea
  have HEL := hide hel
  clear hea hel
  go_enter Yba.func9, Yba.ntmps9
  go_wp2_with fail
  have hRg : R = some gb := by rw [← HRE.out]; rfl
  generalize hwA : ((w.alloc (.cells #[.int .i64 0, .int .u8 0, .int .u32 0, .int .i64 0, .int .u64 0, .pointer none, .pointer none, .pointer none, .pointer none, .pointer none] 41)).alloc (.cells #[.int .i64 ea.t, .int .u8 ea.st, .int .u32 0, .int .i64 ea.cu, .int .u64 ea.seq, .pointer none, .pointer none, .pointer none, .pointer none, .pointer none] 41)) = wA
  have hbA : Below w.heap.size w wA := by rw [← hwA]; exact ((Below.refl _ _).alloc (Nat.le_refl _) _).alloc (by simp) _
  have hoA : Own w ea wA := by rw [← hwA]; exact ⟨heap_alloc2_old w _ _, heap_alloc2_new w _ _⟩
  have HBA := hide hbA
  have HOA := hide hoA
  have hqA := HQA.out.of_below hbA
  have HQB := hide hqA
  have da0 := cell_later hbA ca0
  have da1 := cell_later hbA ca1
  have da2 := cell_later hbA ca2
  have da3 := cell_later hbA ca3
  have da4 := cell_later hbA ca4
  have da5 := cell_later hbA ca5
  have da6 := cell_later hbA ca6
  have da7 := cell_later hbA ca7
  have da8 := cell_later hbA ca8
  have da9 := cell_later hbA ca9
  have dl0 := cell_later hbA cl0
  have dl1 := cell_later hbA cl1
  have dl2 := cell_later hbA cl2
  have dl3 := cell_later hbA cl3
  have dl4 := cell_later hbA cl4
  have dl5 := cell_later hbA cl5
  have dl6 := cell_later hbA cl6
  have dl7 := cell_later hbA cl7
  have dl8 := cell_later hbA cl8
  have dl9 := cell_later hbA cl9
  have d0 := cell_later hbA c0
  have frA : ∀ r, wA.frozen? ⟨gb, r, none⟩ = false := fun r => ((QAt.there hqA hRg 0 (by have := HL.out; omega)).2.2.2 r).2
  clear hwA hbA hoA hqA c0 fq fr ca0 cl0 ca1 cl1 ca2 cl2 ca3 cl3 ca4 cl4 ca5 cl5 ca6 cl6 ca7 cl7 ca8 cl8 ca9 cl9
  go_region
  refine exit_letter (fun wB => QAt B Q R wB (L.set 0 el) s ∧ Own w ea wB ∧ Kq Q R w wB) ?_ ?_
  · have hp := put_world HQB.out hRg 0 (by have := HL.out; omega) el
    have hd : Below (wA.setCells gb (0 * 10) (evCells el)).heap.size (wA.setCells gb (0 * 10) (evCells el)) (wA.setCells gb (0 * 10) (evCells el)).drew := (Below.refl _ _).drew
    have hk : Kq Q R wA (wA.setCells gb (0 * 10) (evCells el)).drew := hp.2.trans (Kq.of_below (R := R) hd) (.inl rfl)
    exact ⟨hp.1.of_below hd, HOA.out.kq hQlt (fun q e => by rw [hRg] at e; simp only [Option.some.injEq] at e; subst e; exact hglt) hk, (Kq.of_below HBA.out).trans hk (.inl rfl)⟩
  · intro wB hB
    obtain ⟨hqB, hoB, hkB⟩ := hB
    have hlB : (L.set 0 el).length = n + 1 := by simp [HL.out]
    obtain ⟨htB, -, ⟨capB, hcB, hdB⟩, hfB⟩ := QAt.there hqB hRg n (by omega)
    rw [hlB] at hdB hcB
    have HQB2 := hide hqB
    have HOB := hide hoB
    have HKB := hide hkB
    have HTB := hide htB
    have HFB := hide hfB
    have HLB := hide hlB
    clear hqB hoB hkB htB hlB hfB d0 frA HQB HBA HOA da0 dl0 da1 dl1 da2 dl2 da3 dl3 da4 dl4 da5 dl5 da6 dl6 da7 dl7 da8 dl8 da9 dl9
    go_wp2_with (first | (refine wpList_store_stop rfl 41 (.tmp 39) (.tmp 38) rfl ?_) | fail)
    refine ⟨1, rfl, ?_⟩
    refine wpList_store_at rfl 41 (.tmp 39) (.tmp 38) rfl gb (n * 10) 10 (evCells zeroEv) (evLen _) ?hx ?hy ?hi ?h1 ?ht ?_
    case hx => rfl
    case hy => rfl
    case hi => exact hi41
    case h1 => exact evOne _
    case ht => exact HTB.out
    refine wpList_letter (fun wC => QAt B Q R wC ((L.set 0 el).set n zeroEv) s ∧ Own w ea wC ∧ Kq Q R w wC) ?_ ?_
    · have hp := put_world HQB2.out hRg n (by rw [HLB.out]; omega) zeroEv
      exact ⟨hp.1, HOB.out.kq hQlt (fun q e => by rw [hRg] at e; simp only [Option.some.injEq] at e; subst e; exact hglt) hp.2, HKB.out.trans hp.2 (.inl rfl)⟩
    intro wC hC
    obtain ⟨hqC, hoC, hkC⟩ := hC
    have hlC : ((L.set 0 el).set n zeroEv).length = n + 1 := by simp [HL.out]
    obtain ⟨-, -, ⟨capC, hcC, hdC⟩, hfC⟩ := QAt.there hqC hRg n (by omega)
    have hcut := QAt.cut hqC hRg n (by omega) hdC
    rw [hlC] at hdC hcC
    have hfC0 : wC.frozen? ⟨Q, 0, none⟩ = false := (hfC 0).1
    have HQC := hide hcut
    have HOC := hide (hoC.kq hQlt (fun q e => by rw [hRg] at e; simp only [Option.some.injEq] at e; subst e; exact hglt) hcut.2)
    have HKC := hide (hkC.trans hcut.2 (.inl rfl))
    clear hqC hoC hkC hcut hlC hfC hdB HQB2 HOB HKB HTB HFB
    have b3 : (n : Int) ≤ (capC : Int) := by omega
    go_wp2_with fail
    clear hdC hfC0 b3 hcC hcB b1 b2 hncap
    go_loopw [5] (fun iv wr => ∃ (i : Nat) (M : List Ev), iv = .int .i64 i ∧ (i < M.length ∨ i = 0) ∧ M.length = n ∧ QAt B Q R wr M s ∧ Down M i ∧ M.Perm (cut L) ∧ Own w ea wr ∧ Kq Q R w wr) (fun iv _ => n - (intOf iv).toNat)
    case atStart =>
      have hce := cut_eq HL.out el zeroEv HEL.out
      exact ⟨0, cut L, rfl, .inr rfl, by rw [cut_length, HL.out]; rfl, by rw [← hce]; exact HQC.out.1, down_start L HH.out, List.Perm.refl _, HOC.out, HKC.out⟩
    case round =>
      obtain ⟨i, M, rfl, hiM0, hML, hqM, hdn, hpm, hoM, hkM⟩ := hrel
      have hin : i ≤ n := by omega
      have HI0 := hide hiM0
      have HML := hide hML
      have HQM := hide hqM
      have HDN := hide hdn
      have HPM := hide hpm
      have HOM := hide hoM
      have HKM := hide hkM
      clear hiM0 hML hqM hdn hpm hoM hkM HQC HOC HKC
      obtain ⟨wo, hwo⟩ : ∃ wo : World, wo = wr := ⟨_, rfl⟩
      subst hwo
      go_wp2_with fail
      go_loopw [6, 57] (fun lv cv wi => ∃ l c m : Nat, lv = .int .i64 l ∧ cv = .int .i64 c ∧ c ≤ 2 ∧ wi = wo.drewN m ∧ Least M i l c) (fun _ cv _ => 2 - (intOf cv).toNat)
      case atStart => exact ⟨i, 0, 0, rfl, rfl, by omega, rfl, least_start M i⟩
      case round =>
        obtain ⟨l, c, m, rfl, rfl, hc2, hw, hls⟩ := hrel
        have hln : l ≤ n := by have := least_le hls HI0.out; have := HML.out; omega
        have HLS := hide hls
        have HW := hide hw
        have HQI := hide (show QAt B Q R wr M s by rw [hw]; exact HQM.out.of_below (below_drewN (Below.refl _ _) _))
        clear hls hw
        by_cases hc : c < 2
        · obtain rfl | rfl : c = 0 ∨ c = 1 := by omega
          · have ix : ∀ w, (Instr.index 70 (.agg #[.int .i64 (2 * (i : Int) + 1), .int .i64 (2 * (i : Int) + 2)]) (.int .i64 0)).run Yba.prog w = .ok (.int .i64 (2 * (i : Int) + 1)) w := fun _ => by kernel_rfl
            by_cases hk : 2 * i + 1 < n
            · have hkM : 2 * i + 1 < M.length := by rw [HML.out]; exact hk
              have hiM : i < M.length := by omega
              have hlM := least_lt HLS.out hiM
              obtain ⟨-, rk, ⟨capk, -, ck⟩, -⟩ := QAt.there HQI.out hRg (2 * i + 1) hkM
              obtain ⟨-, rl, -, -⟩ := QAt.there HQI.out hRg l hlM
              have HRK := hide (at_of_range rk)
              have HRL := hide (at_of_range rl)
              rw [HML.out] at ck
              clear rk rl
              have k1 : (0 : Int) ≤ 2 * (i : Int) + 1 := by omega
              have k2 : 2 * (i : Int) + 1 < (n : Int) := by omega
              have k3 : (2 * (i : Int) + 1).toNat = 2 * i + 1 := by omega
              have l1 : (0 : Int) ≤ (l : Int) := by omega
              have l2 : (l : Int) < (n : Int) := by have := HML.out; omega
              by_cases hlt : Lt (g M (2 * i + 1)) (g M l)
              · have HN := hide hlt
                clear hlt
                go_wp2_with fail
                go_quiet ((go_at_call 15; exact Calls.quiet_of (before_any (wr.drewN _) gb ((2 * i + 1) * 10) gb (l * 10) (g M (2 * i + 1)) (g M l) (At.drewN HRK.out _) (At.drewN HRL.out _) true (by simp [HN.out]))))
                go_wp2_with fail
                go_roundw
                case rel => exact ⟨2 * i + 1, 1, _, by go_num, by go_num, by omega, by rw [HW.out, World.drewN_drewN], least_yes HLS.out (by omega) hkM HN.out⟩
                case measure => simp [intOf]
              · have HN := hide hlt
                clear hlt
                go_wp2_with fail
                go_quiet ((go_at_call 15; exact Calls.quiet_of (before_any (wr.drewN _) gb ((2 * i + 1) * 10) gb (l * 10) (g M (2 * i + 1)) (g M l) (At.drewN HRK.out _) (At.drewN HRL.out _) false (by simp [HN.out]))))
                go_wp2_with fail
                go_roundw
                case rel => exact ⟨l, 1, _, by go_num, by go_num, by omega, by rw [HW.out, World.drewN_drewN], least_no HLS.out (by omega) (fun _ => HN.out)⟩
                case measure => simp [intOf]
            · have kd : decide (2 * (i : Int) + 1 < (n : Int)) = false := by simp; omega
              go_wp2_with fail
              go_quiet (fail)
              go_wp2_with fail
              go_roundw
              case rel => exact ⟨l, 1, _, by go_num, by go_num, by omega, by rw [HW.out, World.drewN_drewN], least_no HLS.out (by omega) (fun h => absurd (by rw [HML.out] at h; exact h) hk)⟩
              case measure => simp [intOf]
          · have ix : ∀ w, (Instr.index 70 (.agg #[.int .i64 (2 * (i : Int) + 1), .int .i64 (2 * (i : Int) + 2)]) (.int .i64 1)).run Yba.prog w = .ok (.int .i64 (2 * (i : Int) + 2)) w := fun _ => by kernel_rfl
            by_cases hk : 2 * i + 2 < n
            · have hkM : 2 * i + 2 < M.length := by rw [HML.out]; exact hk
              have hiM : i < M.length := by omega
              have hlM := least_lt HLS.out hiM
              obtain ⟨-, rk, ⟨capk, -, ck⟩, -⟩ := QAt.there HQI.out hRg (2 * i + 2) hkM
              obtain ⟨-, rl, -, -⟩ := QAt.there HQI.out hRg l hlM
              have HRK := hide (at_of_range rk)
              have HRL := hide (at_of_range rl)
              rw [HML.out] at ck
              clear rk rl
              have k1 : (0 : Int) ≤ 2 * (i : Int) + 2 := by omega
              have k2 : 2 * (i : Int) + 2 < (n : Int) := by omega
              have k3 : (2 * (i : Int) + 2).toNat = 2 * i + 2 := by omega
              have l1 : (0 : Int) ≤ (l : Int) := by omega
              have l2 : (l : Int) < (n : Int) := by have := HML.out; omega
              by_cases hlt : Lt (g M (2 * i + 2)) (g M l)
              · have HN := hide hlt
                clear hlt
                go_wp2_with fail
                go_quiet ((go_at_call 15; exact Calls.quiet_of (before_any (wr.drewN _) gb ((2 * i + 2) * 10) gb (l * 10) (g M (2 * i + 2)) (g M l) (At.drewN HRK.out _) (At.drewN HRL.out _) true (by simp [HN.out]))))
                go_wp2_with fail
                go_roundw
                case rel => exact ⟨2 * i + 2, 2, _, by go_num, by go_num, by omega, by rw [HW.out, World.drewN_drewN], least_yes HLS.out (by omega) hkM HN.out⟩
                case measure => simp [intOf]
              · have HN := hide hlt
                clear hlt
                go_wp2_with fail
                go_quiet ((go_at_call 15; exact Calls.quiet_of (before_any (wr.drewN _) gb ((2 * i + 2) * 10) gb (l * 10) (g M (2 * i + 2)) (g M l) (At.drewN HRK.out _) (At.drewN HRL.out _) false (by simp [HN.out]))))
                go_wp2_with fail
                go_roundw
                case rel => exact ⟨l, 2, _, by go_num, by go_num, by omega, by rw [HW.out, World.drewN_drewN], least_no HLS.out (by omega) (fun _ => HN.out)⟩
                case measure => simp [intOf]
            · have kd : decide (2 * (i : Int) + 2 < (n : Int)) = false := by simp; omega
              go_wp2_with fail
              go_quiet (fail)
              go_wp2_with fail
              go_roundw
              case rel => exact ⟨l, 2, _, by go_num, by go_num, by omega, by rw [HW.out, World.drewN_drewN], least_no HLS.out (by omega) (fun h => absurd (by rw [HML.out] at h; exact h) hk)⟩
              case measure => simp [intOf]
        · obtain rfl : c = 2 := by omega
          have hown : Own w ea wr := HOM.out.kq hQlt (fun q e => by rw [hRg] at e; simp only [Option.some.injEq] at e; subst e; exact hglt) (by rw [HW.out]; exact Kq.of_below (below_drewN (Below.refl _ _) _) : Kq Q R wo wr)
          by_cases hli : l = i
          · subst hli
            have hheap := down_end M l HDN.out (least_end HLS.out)
            have HHP := hide hheap
            have z0 : wr.cell? ⟨w.heap.size, 0, none⟩ = some (.int .i64 0) := by rw [cell_of_row _ _ _ _ _ _ hown.1]; rfl
            have z1 : wr.cell? ⟨w.heap.size, 1, none⟩ = some (.int .u8 0) := by rw [cell_of_row _ _ _ _ _ _ hown.1]; rfl
            have z2 : wr.cell? ⟨w.heap.size, 2, none⟩ = some (.int .u32 0) := by rw [cell_of_row _ _ _ _ _ _ hown.1]; rfl
            have z3 : wr.cell? ⟨w.heap.size, 3, none⟩ = some (.int .i64 0) := by rw [cell_of_row _ _ _ _ _ _ hown.1]; rfl
            have z4 : wr.cell? ⟨w.heap.size, 4, none⟩ = some (.int .u64 0) := by rw [cell_of_row _ _ _ _ _ _ hown.1]; rfl
            have z5 : wr.cell? ⟨w.heap.size, 5, none⟩ = some (.pointer none) := by rw [cell_of_row _ _ _ _ _ _ hown.1]; rfl
            have z6 : wr.cell? ⟨w.heap.size, 6, none⟩ = some (.pointer none) := by rw [cell_of_row _ _ _ _ _ _ hown.1]; rfl
            have z7 : wr.cell? ⟨w.heap.size, 7, none⟩ = some (.pointer none) := by rw [cell_of_row _ _ _ _ _ _ hown.1]; rfl
            have z8 : wr.cell? ⟨w.heap.size, 8, none⟩ = some (.pointer none) := by rw [cell_of_row _ _ _ _ _ _ hown.1]; rfl
            have z9 : wr.cell? ⟨w.heap.size, 9, none⟩ = some (.pointer none) := by rw [cell_of_row _ _ _ _ _ _ hown.1]; rfl
            have e0 : wr.cell? ⟨w.heap.size + 1, 0, none⟩ = some (.int .i64 ea.t) := by rw [cell_of_row _ _ _ _ _ _ hown.2]; rfl
            have e1 : wr.cell? ⟨w.heap.size + 1, 1, none⟩ = some (.int .u8 ea.st) := by rw [cell_of_row _ _ _ _ _ _ hown.2]; rfl
            have e2 : wr.cell? ⟨w.heap.size + 1, 2, none⟩ = some (.int .u32 0) := by rw [cell_of_row _ _ _ _ _ _ hown.2]; rfl
            have e3 : wr.cell? ⟨w.heap.size + 1, 3, none⟩ = some (.int .i64 ea.cu) := by rw [cell_of_row _ _ _ _ _ _ hown.2]; rfl
            have e4 : wr.cell? ⟨w.heap.size + 1, 4, none⟩ = some (.int .u64 ea.seq) := by rw [cell_of_row _ _ _ _ _ _ hown.2]; rfl
            have e5 : wr.cell? ⟨w.heap.size + 1, 5, none⟩ = some (.pointer none) := by rw [cell_of_row _ _ _ _ _ _ hown.2]; rfl
            have e6 : wr.cell? ⟨w.heap.size + 1, 6, none⟩ = some (.pointer none) := by rw [cell_of_row _ _ _ _ _ _ hown.2]; rfl
            have e7 : wr.cell? ⟨w.heap.size + 1, 7, none⟩ = some (.pointer none) := by rw [cell_of_row _ _ _ _ _ _ hown.2]; rfl
            have e8 : wr.cell? ⟨w.heap.size + 1, 8, none⟩ = some (.pointer none) := by rw [cell_of_row _ _ _ _ _ _ hown.2]; rfl
            have e9 : wr.cell? ⟨w.heap.size + 1, 9, none⟩ = some (.pointer none) := by rw [cell_of_row _ _ _ _ _ _ hown.2]; rfl
            have fz : ∀ r, wr.frozen? ⟨w.heap.size, r, none⟩ = false := fun r => frozen_of_row _ _ _ _ _ hown.1
            have hfin := HQI.out.own hQlt (fun q e => by rw [hRg] at e; simp only [Option.some.injEq] at e; subst e; exact hglt) (HKM.out.trans (by rw [HW.out]; exact Kq.of_below (below_drewN (Below.refl _ _) _) : Kq Q R wo wr) (.inl rfl)) (evCells ea)
            have HFN := hide hfin
            clear hown hheap hfin HDN HLS HI0
            go_wp2_with fail
            refine bodyPost_ret (v := .agg (evCells ea).toArray) ?_ rfl ⟨rfl, M, ?_, HHP.out, ?_, ?_⟩
            · simp [results, Yba.results9, go_sem, evCells, z0, z1, z2, z3, z4, z5, z6, z7, z8, z9]
            · exact HFN.out.1
            · rw [← HEA.out]; exact (cut_perm L (by rw [HL.out]; omega)).trans (List.Perm.cons _ HPM.out.symm)
            · exact HFN.out.2
          · obtain ⟨hl0, hlM, hlp, hllt⟩ : 0 < l ∧ l < M.length ∧ (l - 1) / 2 = i ∧ Lt (g M l) (g M i) := by
              rcases HLS.out.1 with h | h
              · exact absurd h hli
              · exact h
            have hiM : i < M.length := by omega
            obtain ⟨-, ri, ⟨capk, -, ck⟩, hfr⟩ := QAt.there HQI.out hRg i hiM
            obtain ⟨-, rl, -, -⟩ := QAt.there HQI.out hRg l hlM
            rw [HML.out] at ck
            have ci0 := ri 0 _ rfl
            have ci1 := ri 1 _ rfl
            have ci2 := ri 2 _ rfl
            have ci3 := ri 3 _ rfl
            have ci4 := ri 4 _ rfl
            have ci5 := ri 5 _ rfl
            have ci6 := ri 6 _ rfl
            have ci7 := ri 7 _ rfl
            have ci8 := ri 8 _ rfl
            have ci9 := ri 9 _ rfl
            have cl0 := rl 0 _ rfl
            have cl1 := rl 1 _ rfl
            have cl2 := rl 2 _ rfl
            have cl3 := rl 3 _ rfl
            have cl4 := rl 4 _ rfl
            have cl5 := rl 5 _ rfl
            have cl6 := rl 6 _ rfl
            have cl7 := rl 7 _ rfl
            have cl8 := rl 8 _ rfl
            have cl9 := rl 9 _ rfl
            simp only [Nat.add_zero] at ci0 cl0
            have fr : ∀ r, wr.frozen? ⟨gb, r, none⟩ = false := fun r => (hfr r).2
            have hsw := swap_drew HQI.out hRg (HKM.out.trans (by rw [HW.out]; exact Kq.of_below (below_drewN (Below.refl _ _) _) : Kq Q R wo wr) (.inl rfl)) hown hQlt hglt i l hiM hlM
            have HSW := hide hsw
            have HDS := hide (down_step M i l hl0 hlM hlp HDN.out hllt (least_least HLS.out))
            have HPS := hide ((swap_perm M i l hiM hlM).trans HPM.out)
            have hne : ((l : Int) == (i : Int)) = false := by simp; omega
            have i1 : (0 : Int) ≤ (i : Int) := by omega
            have i2 : (i : Int) < (n : Int) := by have := HML.out; omega
            have l1 : (0 : Int) ≤ (l : Int) := by omega
            have l2 : (l : Int) < (n : Int) := by have := HML.out; omega
            have hil : i < l := by omega
            have hlM2 : l < n := by have := HML.out; omega
            clear ri rl hfr hsw hllt hli hown hlp
            generalize g M i = ei at *
            generalize g M l = el2 at *
            go_wp2_with fail
            go_region
            go_wp2_with fail
            go_roundw
            case rel =>
              obtain ⟨hq, ho, hk⟩ := HSW.out
              exact ⟨l, swap M i l, by go_num, .inl (by rw [swap_length]; exact hlM), by rw [swap_length]; exact HML.out, hq, HDS.out, HPS.out, ho, hk⟩
            case measure => simp [intOf]; omega

end Go.Proofs.Ybulkmvu.Pop
