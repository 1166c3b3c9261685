/-
  'LawS0670BDrain': its plain facts; '(*eventQueue).len'; pop's answer written out.
-/
import Derived.Test.YbulkmvuPop
namespace Go.Proofs.Ybulkmvu.DrainPlain
open Go.RowKit Go.Proofs.Ybulkmvu.Ev Go.Proofs.Ybulkmvu.Heap Go.Proofs.Ybulkmvu.Queue

/-- The first n events that are pushed. -/
def evs (ats st : Nat → Int) (n : Nat) : List Ev := (List.range n).map fun j => ⟨ats j, st j, 0, (j : Int)⟩

theorem evs_succ (ats st : Nat → Int) (n : Nat) : evs ats st (n + 1) = evs ats st n ++ [⟨ats n, st n, 0, (n : Int)⟩] := by simp [evs, List.range_succ]
theorem evs_length (ats st : Nat → Int) (n : Nat) : (evs ats st n).length = n := by simp [evs]
theorem mem_evs {ats st : Nat → Int} {n : Nat} {x : Ev} (h : x ∈ evs ats st n) : ∃ j, j < n ∧ x = ⟨ats j, st j, 0, (j : Int)⟩ := by
  simp only [evs, List.mem_map, List.mem_range] at h
  obtain ⟨j, hj, rfl⟩ := h
  exact ⟨j, hj, rfl⟩
theorem evs_nodup (ats st : Nat → Int) (n : Nat) : (evs ats st n).Nodup := by
  induction n with
  | zero => simp [evs]
  | succ n ih =>
    rw [evs_succ, List.nodup_append]
    refine ⟨ih, by simp, fun a ha b hb => ?_⟩
    simp only [List.mem_singleton] at hb
    obtain ⟨j, hj, rfl⟩ := mem_evs ha
    subst hb
    intro e
    simp only [Ev.mk.injEq] at e
    omega

theorem lt_total {a b : Ev} (h1 : ¬ Lt a b) (h2 : a.seq ≠ b.seq) : Lt b a := by unfold Lt at *; omega

/-- What holds when P has been popped and M is left. -/
def Left (ats st : Nat → Int) (N : Nat) (P M : List Ev) : Prop := (P ++ M).Perm (evs ats st N) ∧ Heap M ∧ (∀ y, P.getLast? = some y → ∀ x ∈ M, ¬ Lt x y)

theorem Left.first {ats st : Nat → Int} {N : Nat} {P M : List Ev} (h : Left ats st N P M) (hM : 0 < M.length) :
    ∃ j, j < N ∧ g M 0 = ⟨ats j, st j, 0, (j : Int)⟩ ∧ (∀ y ∈ P, y.seq ≠ (j : Int)) ∧ (∀ y, P.getLast? = some y → Lt y (g M 0)) := by
  have hm : g M 0 ∈ M := by rw [g_eq M 0 hM]; exact List.getElem_mem hM
  have hmem : g M 0 ∈ evs ats st N := h.1.subset (List.mem_append_right _ hm)
  obtain ⟨j, hj, hg⟩ := mem_evs hmem
  have hnd : (P ++ M).Nodup := h.1.nodup_iff.2 (evs_nodup ats st N)
  have hne : ∀ y ∈ P, y.seq ≠ (j : Int) := by
    intro y hy e
    obtain ⟨i, hi, rfl⟩ := mem_evs (h.1.subset (List.mem_append_left _ hy))
    have : i = j := by have e' : (i : Int) = (j : Int) := e; omega
    subst this
    rw [← hg] at hy
    exact (List.nodup_append.1 hnd).2.2 _ hy _ hm rfl
  refine ⟨j, hj, hg, hne, fun y hy => ?_⟩
  refine lt_total (h.2.2 y hy _ hm) ?_
  have := hne y (List.mem_of_getLast? hy)
  rw [hg]
  exact fun e => this e.symm

theorem Left.step {ats st : Nat → Int} {N : Nat} {P M M' : List Ev} (h : Left ats st N P M) (hp : M.Perm (g M 0 :: M')) (hh : Heap M') : Left ats st N (P ++ [g M 0]) M' := by
  refine ⟨?_, hh, fun y hy x hx => ?_⟩
  · rw [List.append_assoc]
    exact ((List.Perm.append_left P hp).symm).trans h.1
  · rw [List.getLast?_concat] at hy
    simp only [Option.some.injEq] at hy
    subst hy
    exact heap_min_mem M h.2.1 x (hp.symm.subset (List.mem_cons_of_mem _ hx))

theorem len_any (B Q : Nat) (R : Option Nat) (w : World) (L : List Ev) (s : Int) (n : Nat) (hq : QAt B Q R w L s) (hn : L.length = n) :
    Calls Yba.prog 6 #[.pointer (some ⟨Q, 0, none⟩)] w fun e w' => e = .returned (.int .i64 (n : Int)) ∧ w' = w := by
  obtain ⟨ao, cap, xs, hQ, -, -, -, -⟩ := hq
  have c0 : w.cell? ⟨Q, 0, none⟩ = some (.slice ao n cap) := by rw [cell_of_row _ _ _ _ _ _ hQ, hn]; rfl
  clear hn hQ
  go_enter Yba.func6, Yba.ntmps6
  go_wp2_with fail
  go_ret
  exact ⟨rfl, rfl⟩

theorem len_int (B Q : Nat) (R : Option Nat) (w : World) (L : List Ev) (s v : Int) (hq : QAt B Q R w L s) (hv : (L.length : Int) = v) :
    Calls Yba.prog 6 #[.pointer (some ⟨Q, 0, none⟩)] w fun e w' => e = .returned (.int .i64 v) ∧ w' = w := by
  rw [← hv]
  exact len_any B Q R w L s L.length hq rfl

theorem pop_lit (B Q : Nat) (R : Option Nat) (w : World) (L : List Ev) (n : Nat) (s : Int) (x : Ev) (hx : g L 0 = x) (hq : QAt B Q R w L s) (hL : L.length = n + 1) (hn : n ≤ 2000) (hH : Heap L) :
    Calls Yba.prog 9 #[.pointer (some ⟨Q, 0, none⟩)] w fun r w' =>
      r = .returned (.agg #[.int .i64 x.t, .int .u8 x.st, .int .u32 0, .int .i64 x.cu, .int .u64 x.seq, .pointer none, .pointer none, .pointer none, .pointer none, .pointer none]) ∧ ∃ L', QAt B Q R w' L' s ∧ Heap L' ∧ L.Perm (x :: L') ∧ Kq Q R w w' := by
  subst hx
  exact (Pop.pop_any B Q R w L n s hq hL hn hH).mono fun e w' h => h

end Go.Proofs.Ybulkmvu.DrainPlain
