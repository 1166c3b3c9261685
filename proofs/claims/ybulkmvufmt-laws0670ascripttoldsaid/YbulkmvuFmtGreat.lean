/-
  The great loop of 'LawS0670AScript', whole.
-/
import Derived.Test.YbulkmvuFmtRounds
import Derived.Test.YbulkmvuFmtAfter
namespace Go.Proofs.YbulkmvuFmt
open Go.RowKit Go.Extern.Stop Go.Stop Go.Extern
set_option linter.unusedVariables false

def L1 (w : World) (n : Nat) (k : Nat) (u : Nat → Value) (wr : World) : Prop :=
  k ≤ n ∧ u 52 = .int .i64 (k : Int) ∧ ∃ own V C X, u 4 = V [4] ∧ u 5 = V [7] ∧ u 6 = V [10] ∧ u 7 = V [11] ∧ SSt w wr k own V C X

theorem mu_frame {a0 : Option Addr} {n c B k : Nat} {v : Nat → Value} (wx : World) (h : v 52 = .int .i64 (k : Int)) : mu n ⟨frame a0 n c B v, []⟩ wx = n - k := by
  show n - (intOf (v 52)).toNat = n - k
  rw [h]
  rfl
theorem mu_less {arr : Array Value} {n k : Nat} (wx : World) (h : arr.getD 52 undef = .int .i64 ((k : Int) + 1)) (hk : k < n) : mu n ⟨arr, []⟩ wx < n - k := by
  show n - (intOf (arr.getD 52 undef)).toNat < n - k
  rw [h]
  show n - ((k : Int) + 1).toNat < n - k
  omega
theorem to_frame {Φ : Act → Prop} {arr : Array Value} {a0 : Option Addr} {n c B : Nat} (h : arr = frame a0 n c B (fun i => arr.getD i undef)) (hf : Φ ⟨frame a0 n c B (fun i => arr.getD i undef), []⟩) : Φ ⟨arr, []⟩ := by
  rw [← h] at hf
  exact hf

/-- A round's start, out of what lies between two steps. -/
theorem in_of {F : Interp} {a0 : Option Addr} {n c k : Nat} {f : Nat → St3} {u : Nat → Value} {w wr : World} {own : Nat → List Nat} {V : List Nat → Value} {C : List Nat → Nat} {X : List Nat → List Value} (hF : F.answers w.tape) (hP : Pow w) (hBr : Bru w) (hn : n ≤ 512) (hin : StepsAt w a0 n f) (hk : k < n) (hu : u 52 = .int .i64 (k : Int))
    (h4 : u 4 = V [4]) (h5 : u 5 = V [7]) (h6 : u 6 = V [10]) (h7 : u 7 = V [11]) (hs : SSt w wr k own V C X) :
    ∃ b off nk nc nw ni nm na, In F a0 n c k b off u w wr (f k) own V C X nk nc nw ni nm na := by
  obtain ⟨b, off, ha, hst⟩ := hin
  obtain ⟨R, hB, hbel, hlo, nk, nc, nw, ni, nm, na, ps, ms, al, b1, b2, b3, b4, b5⟩ := hs
  obtain ⟨ha, hb⟩ := ha (by omega)
  obtain ⟨hok, c0, c1, c2⟩ := hst k hk
  exact ⟨b, off, nk, nc, nw, ni, nm, na, by rw [hbel.tape]; exact hF, hu, hk, hn, ha, hok, cell_below hbel hb c0, cell_below hbel hb c1, cell_below hbel hb c2, h4, h5, h6, h7, R, hB, hbel, hlo, pow_below hP hbel, bru_below hBr hbel, ps, ms, al, b1, b2, b3, b4, b5⟩

set_option maxHeartbeats 4000000 in
set_option maxRecDepth 1000000 in
theorem great_exit (a0 : Option Addr) (n c : Nat) (u : Nat → Value) (w wr : World) (V : List Nat → Value) (m4 : Option Addr) (l4 k4 : Nat) (K : Act → World → Prop) (Q : Exit → Act → World → Prop) (hu : u 52 = .int .i64 (n : Int)) (h4 : u 4 = V [4]) (h5 : u 5 = V [7]) (h6 : u 6 = V [10]) (h7 : u 7 = V [11])
    (hQ : ∀ v, Sl w.heap.size V v → Q (.exit 0) ⟨frame2 v, []⟩ wr) :
    Code.wp Ybaf.prog ((Ybaf.f4.body.bind firstLoop).getD .skip) (Exit.then K Q) ⟨frame a0 n c w.heap.size u, []⟩ wr := by
  have hnn : ¬ (n : Int) < (n : Int) := by omega
  unfold frame
  rw [hu, h4, h5, h6, h7]
  conv => arg 2; whnf
  have HQ := hide hQ
  clear hQ hu h4 h5 h6 h7
  go_wp2_with fail
  refine to_frame2 (Φ := fun a => Q (.exit 0) a wr) ?_ (HQ.out _ ⟨rfl, rfl, rfl, rfl, rfl⟩)
  kernel_rfl

theorem great (F : Interp) (a0 : Option Addr) (n c : Nat) (f : Nat → St3) (u : Nat → Value) (w w3 : World) (Q : Exit → Act → World → Prop) (hF : F.answers w.tape) (hP : Pow w) (hBr : Bru w) (hn : n ≤ 512) (hin : StepsAt w a0 n f) (h0 : L1 w n 0 u w3)
    (hQ : ∀ v wr own V C X, SSt w wr n own V C X → Sl w.heap.size V v → Q (.exit 0) ⟨frame2 v, []⟩ wr) :
    (Code.loop ((Ybaf.f4.body.bind firstLoop).getD .skip)).wp Ybaf.prog Q ⟨frame a0 n c w.heap.size u, []⟩ w3 := by
  refine wp_loop (fun a wr => ∃ (k : Nat) (u : Nat → Value), a = ⟨frame a0 n c w.heap.size u, []⟩ ∧ L1 w n k u wr) (mu n) ⟨0, u, rfl, h0⟩ ?_
  rintro _ wr ⟨k, u, rfl, hk, hu, own, V, C, X, h4, h5, h6, h7, hs⟩
  rw [mu_frame wr hu]
  by_cases hkn : k < n
  · obtain ⟨b, off, nk, nc, nw, ni, nm, na, hI⟩ := in_of (c := c) hF hP hBr hn hin hkn hu h4 h5 h6 h7 hs
    refine round F a0 n c k b off u w wr (f k) own V C X nk nc nw ni nm na _ Q hI ?_
    rintro arr w' ⟨e1, e2, own', V', C', X', g4, g5, g6, g7, hs'⟩
    exact ⟨⟨k + 1, fun i => arr.getD i undef, by rw [← e1], hkn, e2, own', V', C', X', g4, g5, g6, g7, hs'⟩, mu_less w' e2 hkn⟩
  · obtain rfl : k = n := by omega
    exact great_exit a0 k c u w wr V none 0 0 _ Q hu h4 h5 h6 h7 (fun v hv => hQ v wr own V C X hs hv)
end Go.Proofs.YbulkmvuFmt
