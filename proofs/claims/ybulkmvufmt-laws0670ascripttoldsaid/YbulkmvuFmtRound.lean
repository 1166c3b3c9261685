/-
  What a round of 'LawS0670AScript' may use, and what it leaves.
-/
import Derived.Test.YbulkmvuFmtLoop
namespace Go.Proofs.YbulkmvuFmt
open Go.RowKit Go.Extern.Stop Go.Stop Go.Extern
set_option linter.unusedVariables false

/-- 'append' of one element to a row, in a walk; blocks other than the row's own are kept. -/
theorem wpList_append_rws' {ops : Array Oper} {rest : List Oper} {o : Oper} {a : Act} {Q : Exit → Act → World → Prop} {w : World} {own : Nat → List Nat} {lo : Nat} {V : List Nat → Value} {C : List Nat → Nat} {X : List Nat → List Value} (hgd : o.guard = none) (s x : Operand) (ty : TypeId)
    (ho : o.op = .call { callee := .builtin .append, args := #[s, x], argTypes := #[ty, ty] }) (t : List Nat) (i : TypeInfo) (z : Value) (bytes : Nat) (ht : Ybaf.prog.underlying ty = some (.slice (E t))) (hi : Ybaf.prog.info? (E t) = some i) (hz : i.zero = some z)
    (hsize : i.size = S t) (hby : i.bytes = bytes) (hzs : z.cells.size = S t) (hsz : 0 < S t) (hs : a.eval s = V t) (R : Rws w own lo V C X)
    (ad : Addr) (c : Nat) (news : List Value) (hx : a.eval x = .slice (some ad) 1 c) (hl : news.length = S t) (hnews : ∀ j u, news[j]? = some u → w.cell? (ad.add j) = some u) (h1 : ∀ u ∈ news, u.oneCell' = true)
    (hC : C t ≤ 2000) (hb : bytes ≤ 1000) (hlo : lo ≤ w.heap.size)
    (h : ∀ v' w' own', Rws w' own' lo (upd V t v') (upd C t (C t + 1)) (upd X t (X t ++ news)) → Below lo w w' → w.heap.size ≤ w'.heap.size → (∀ q, q < w.heap.size → (∀ g, (V t).ownBlock = some g → q ≠ g) → w'.heap[q]? = w.heap[q]?) → (∃ g cap, v' = .slice (some ⟨g, 0, none⟩) (C t + 1) cap) → wpList Ybaf.prog ops Q rest (a.put o.dst v') w') : wpList Ybaf.prog ops Q (o :: rest) a w := by
  refine wpList_append_own_at w hgd s x ty ho lo (E t) i z (S t) bytes ht hi hz hsize hby hzs hsz (V t) (C t) (X t) hs (R t).1 ad 1 c news hx (by omega) hnews h1 (by unfold maxLen; omega) ?_ hlo ?_
  · have : (C t + 1) * bytes ≤ 2001 * 1000 := Nat.mul_le_mul (by omega) hb
    omega
  · intro v' w' k1 k2 k3 k4
    obtain ⟨own', R'⟩ := R.grow t k1 k2 k4
    refine h v' w' own' R' (R.grown_below t hlo k2) k2.size (fun q hq hg => k2.block q hq (fun e => hg q e.symm rfl)) ?_
    rcases k1.2 with ⟨_, h0⟩ | ⟨g, cap, cur, e1, _⟩
    · omega
    · exact ⟨g, cap, e1⟩

/-- A cell of a block that lies as it lay. -/
theorem cell_kept {w w' : World} {q j : Nat} {u : Value} (hk : w'.heap[q]? = w.heap[q]?) (hc : w.cell? ⟨q, j, none⟩ = some u) : w'.cell? ⟨q, j, none⟩ = some u := by
  rw [← hc]; unfold World.cell?; simp only [hk]

/-- A round's start. -/
structure In (F : Interp) (a0 : Option Addr) (n c k b off : Nat) (u : Nat → Value) (w wr : World) (s : St3) (own : Nat → List Nat) (V : List Nat → Value) (C : List Nat → Nat) (X : List Nat → List Value) (nk : Nat) (nc : Nat → Nat) (nw : Nat → Nat → Nat) (ni : Nat → Nat → Nat → Nat) (nm : Nat → ByteArray) (na : Nat) : Prop where
  hF : F.answers wr.tape
  hu : u 52 = .int .i64 k
  hkn : k < n
  hn : n ≤ 512
  ha : a0 = some ⟨b, off, none⟩
  hok : okSt s
  c0 : wr.cell? ⟨b, off + k * 3, none⟩ = some (.int .u8 s.op)
  c1 : wr.cell? ⟨b, off + k * 3 + 1, none⟩ = some (.int .u8 s.n)
  c2 : wr.cell? ⟨b, off + k * 3 + 2, none⟩ = some (.int .u64 s.a)
  hu4 : u 4 = V [4]
  hu5 : u 5 = V [7]
  hu6 : u 6 = V [10]
  hu7 : u 7 = V [11]
  R : Rws wr own (w.heap.size + 1) V C X
  hB : PBx wr w.heap.size V
  hbel : Below w.heap.size w wr
  hlo : w.heap.size + 1 ≤ wr.heap.size
  hP : Pow wr
  hBr : Bru wr
  ps : PSh nk nc nw ni nm V C X
  ms : MSh nk nc nw ni nm V C X
  al : ASh na C X
  b1 : nk ≤ k
  b2 : ∀ i, nc i ≤ k
  b3 : ∀ i j, nw i j ≤ k
  b4 : ∀ i j p, ni i j p ≤ k
  b5 : na ≤ k

/-- A round's end. -/
def Res (a0 : Option Addr) (n c : Nat) (w : World) (k : Nat) (arr : Array Value) (w' : World) : Prop :=
  arr = frame a0 n c w.heap.size (fun i => arr.getD i undef) ∧ arr.getD 52 undef = .int .i64 ((k : Int) + 1) ∧
  ∃ own V C X, arr.getD 4 undef = V [4] ∧ arr.getD 5 undef = V [7] ∧ arr.getD 6 undef = V [10] ∧ arr.getD 7 undef = V [11] ∧ SSt w w' (k + 1) own V C X

theorem Kp.below {B : Nat} {w wr w' : World} (hb : Below B w wr) (h : Kp B (B + 1) wr w') : Below B w w' :=
  hb.trans ⟨h.1, h.2.1, h.2.2.1, by have := h.2.2.2.1; have := hb.size; omega, fun q hq => h.2.2.2.2 q (by omega) (by omega)⟩

/-- Nothing was added. -/
theorem In.same {F : Interp} {a0 : Option Addr} {n c k b off : Nat} {u : Nat → Value} {w wr w' : World} {s : St3} {own : Nat → List Nat} {V : List Nat → Value} {C : List Nat → Nat} {X : List Nat → List Value} {nk : Nat} {nc : Nat → Nat} {nw : Nat → Nat → Nat} {ni : Nat → Nat → Nat → Nat} {nm : Nat → ByteArray} {na : Nat}
    (h : In F a0 n c k b off u w wr s own V C X nk nc nw ni nm na) (hb : Below wr.heap.size wr w') : SSt w w' (k + 1) own V C X := by
  refine ⟨h.R.below hb, (hb.block _ (by have := h.hlo; omega)).trans h.hB, h.hbel.trans (hb.mono (by have := h.hlo; omega)), by have := hb.size; have := h.hlo; omega, nk, nc, nw, ni, nm, na, h.ps, h.ms, h.al, by have := h.b1; omega, fun i => by have := h.b2 i; omega, fun i j => by have := h.b3 i j; omega, fun i j p => by have := h.b4 i j p; omega, by have := h.b5; omega⟩

/-- The frame's four slots and the world, where nothing was added. -/
theorem In.done {F : Interp} {a0 : Option Addr} {n c k b off : Nat} {u : Nat → Value} {w wr w' : World} {s : St3} {own : Nat → List Nat} {V : List Nat → Value} {C : List Nat → Nat} {X : List Nat → List Value} {nk : Nat} {nc : Nat → Nat} {nw : Nat → Nat → Nat} {ni : Nat → Nat → Nat → Nat} {nm : Nat → ByteArray} {na : Nat}
    (h : In F a0 n c k b off u w wr s own V C X nk nc nw ni nm na) {arr : Array Value} (h1 : arr = frame a0 n c w.heap.size (fun i => arr.getD i undef)) (h2 : arr.getD 52 undef = .int .i64 ((k : Int) + 1)) (h4 : arr.getD 4 undef = V [4]) (h5 : arr.getD 5 undef = u 5) (h6 : arr.getD 6 undef = u 6) (h7 : arr.getD 7 undef = u 7) (hb : Below wr.heap.size wr w') : Res a0 n c w k arr w' :=
  ⟨h1, h2, own, V, C, X, h4, h5.trans h.hu5, h6.trans h.hu6, h7.trans h.hu7, h.same hb⟩

theorem info41 : (Ybaf.prog.info? 41).map (fun i => (i.zero, i.size, i.bytes)) = some (some (.slice none 0 0), 1, 24) := by kernel_rfl
theorem info27 : (Ybaf.prog.info? 27).map (fun i => (i.zero, i.size, i.bytes)) = some (some (.slice none 0 0), 1, 24) := by kernel_rfl

theorem ne_head {a b : Nat} {l m : List Nat} (h : a ≠ b) : a :: l ≠ b :: m := fun e => h (List.cons.inj e).1

theorem PBx.same {w : World} {B : Nat} {V V' : List Nat → Value} (h : PBx w B V) (h8 : V' [8] = V [8]) (h0 : V' [0] = V [0]) (h9 : V' [9] = V [9]) : PBx w B V' := by
  unfold PBx; rw [h8, h0, h9]; exact h

theorem bump1_le (f : Nat → Nat) (n i : Nat) {k : Nat} (h : f i ≤ k) : bump1 f n i ≤ k + 1 := by
  unfold bump1; split <;> omega
theorem bump2_le (f : Nat → Nat → Nat) (n m i j : Nat) {k : Nat} (h : f i j ≤ k) : bump2 f n m i j ≤ k + 1 := by
  unfold bump2; split <;> omega
theorem bump3_le (f : Nat → Nat → Nat → Nat) (n m p i j q : Nat) {k : Nat} (h : f i j q ≤ k) : bump3 f n m p i j q ≤ k + 1 := by
  unfold bump3; split <;> omega

/-- Something was added. -/
theorem In.more {F : Interp} {a0 : Option Addr} {n c k b off : Nat} {u : Nat → Value} {w wr w' : World} {s : St3} {own : Nat → List Nat} {V : List Nat → Value} {C : List Nat → Nat} {X : List Nat → List Value} {nk : Nat} {nc : Nat → Nat} {nw : Nat → Nat → Nat} {ni : Nat → Nat → Nat → Nat} {nm : Nat → ByteArray} {na : Nat}
    (h : In F a0 n c k b off u w wr s own V C X nk nc nw ni nm na) {own' : Nat → List Nat} {V' : List Nat → Value} {C' : List Nat → Nat} {X' : List Nat → List Value} {nk' : Nat} {nc' : Nat → Nat} {nw' : Nat → Nat → Nat} {ni' : Nat → Nat → Nat → Nat} {nm' : Nat → ByteArray} {na' : Nat}
    (hk : Kp w.heap.size (w.heap.size + 1) wr w') (R' : Rws w' own' (w.heap.size + 1) V' C' X') (hB' : PBx w' w.heap.size V') (ps : PSh nk' nc' nw' ni' nm' V' C' X') (ms : MSh nk' nc' nw' ni' nm' V' C' X') (al : ASh na' C' X') (b1 : nk' ≤ k + 1) (b2 : ∀ i, nc' i ≤ k + 1) (b3 : ∀ i j, nw' i j ≤ k + 1) (b4 : ∀ i j p, ni' i j p ≤ k + 1) (b5 : na' ≤ k + 1) : SSt w w' (k + 1) own' V' C' X' :=
  ⟨R', hB', hk.below h.hbel, by have := hk.2.2.2.1; have := h.hlo; omega, nk', nc', nw', ni', nm', na', ps, ms, al, b1, b2, b3, b4, b5⟩

theorem In.nk0 {F : Interp} {a0 : Option Addr} {n c k b off : Nat} {u : Nat → Value} {w wr : World} {s : St3} {own : Nat → List Nat} {V : List Nat → Value} {C : List Nat → Nat} {X : List Nat → List Value} {nk : Nat} {nc : Nat → Nat} {nw : Nat → Nat → Nat} {ni : Nat → Nat → Nat → Nat} {nm : Nat → ByteArray} {na : Nat}
    (h : In F a0 n c k b off u w wr s own V C X nk nc nw ni nm na) : ∃ a cap, V [0] = .slice a nk cap := by
  obtain ⟨a, cap, e⟩ := h.R.val [0]
  rw [h.ps.1] at e
  exact ⟨a, cap, e⟩

/-- The last kernel on both sides. -/
theorem In.lastK {F : Interp} {a0 : Option Addr} {n c k b off : Nat} {u : Nat → Value} {w wr : World} {s : St3} {own : Nat → List Nat} {V : List Nat → Value} {C : List Nat → Nat} {X : List Nat → List Value} {q : Nat} {nc : Nat → Nat} {nw : Nat → Nat → Nat} {ni : Nat → Nat → Nat → Nat} {nm : Nat → ByteArray} {na : Nat}
    (h : In F a0 n c k b off u w wr s own V C X (q + 1) nc nw ni nm na) :
    ∃ g4 k4 a5 k5 g0 k0 a1 k1, V [4] = .slice (some ⟨g4, 0, none⟩) (q + 1) k4 ∧ g4 < wr.heap.size ∧ V [5, q] = .slice a5 (nc q) k5 ∧ wr.cell? ⟨g4, q, none⟩ = some (.slice a5 (nc q) k5) ∧ V [0] = .slice (some ⟨g0, 0, none⟩) (q + 1) k0 ∧ g0 < wr.heap.size ∧ V [1, q] = .slice a1 (nc q) k1 ∧ wr.cell? ⟨g0, q * 2 + 1, none⟩ = some (.slice a1 (nc q) k1) ∧ (∀ j, wr.frozen? ⟨g4, j, none⟩ = false) := by
  obtain ⟨g4, k4, e4, l4, t4, -, -, x4, f4⟩ := h.R.at [4] (by rw [h.ms.1]; omega)
  obtain ⟨g0, k0, e0, l0, t0, -, -, x0, f0⟩ := h.R.at [0] (by rw [h.ps.1]; omega)
  obtain ⟨a5, k5, e5⟩ := h.R.val [5, q]
  obtain ⟨a1, k1, e1⟩ := h.R.val [1, q]
  rw [h.ms.1] at e4
  rw [h.ps.1] at e0
  rw [(h.ms.2.2.1 q).1] at e5
  rw [(h.ps.2.2.1 q).1] at e1
  refine ⟨g4, k4, a5, k5, g0, k0, a1, k1, e4, t4, e5, ?_, e0, t0, e1, ?_, f4⟩
  · rw [← e5]; exact x4 _ _ (h.ms.2.1 q (by omega))
  · rw [← e1]; exact x0 _ _ (h.ps.2.1 q (by omega)).2

/-- A cell that was there is there still where a block is made. -/
theorem cell_old {w : World} {q j : Nat} {u : Value} (hq : q < w.heap.size) (hc : w.cell? ⟨q, j, none⟩ = some u) (o : Obj) : (w.alloc o).cell? ⟨q, j, none⟩ = some u := cell_kept (Below.heap_alloc _ _ _ hq) hc

theorem cell_below {w w' : World} {q j : Nat} {u : Value} (hb : Below w.heap.size w w') (hq : q < w.heap.size) (hc : w.cell? ⟨q, j, none⟩ = some u) : w'.cell? ⟨q, j, none⟩ = some u := cell_kept (hb.block _ hq) hc

/-- The last CTA on both sides. -/
theorem In.lastC {F : Interp} {a0 : Option Addr} {n c k b off : Nat} {u : Nat → Value} {w wr : World} {s : St3} {own : Nat → List Nat} {V : List Nat → Value} {C : List Nat → Nat} {X : List Nat → List Value} {q r : Nat} {nc : Nat → Nat} {nw : Nat → Nat → Nat} {ni : Nat → Nat → Nat → Nat} {nm : Nat → ByteArray} {na : Nat}
    (h : In F a0 n c k b off u w wr s own V C X (q + 1) nc nw ni nm na) (hr : nc q = r + 1) :
    ∃ g5 k5 a6 k6 g1 k1 a2 k2, V [5, q] = .slice (some ⟨g5, 0, none⟩) (r + 1) k5 ∧ g5 < wr.heap.size ∧ V [6, q, r] = .slice a6 (nw q r) k6 ∧ wr.cell? ⟨g5, r, none⟩ = some (.slice a6 (nw q r) k6) ∧ V [1, q] = .slice (some ⟨g1, 0, none⟩) (r + 1) k1 ∧ g1 < wr.heap.size ∧ V [2, q, r] = .slice a2 (nw q r) k2 ∧ wr.cell? ⟨g1, r, none⟩ = some (.slice a2 (nw q r) k2) ∧ (∀ j, wr.frozen? ⟨g5, j, none⟩ = false) := by
  obtain ⟨g5, k5, e5, l5, t5, -, -, x5, f5⟩ := h.R.at [5, q] (by rw [(h.ms.2.2.1 q).1]; omega)
  obtain ⟨g1, k1, e1, l1, t1, -, -, x1, f1⟩ := h.R.at [1, q] (by rw [(h.ps.2.2.1 q).1]; omega)
  obtain ⟨a6, k6, e6⟩ := h.R.val [6, q, r]
  obtain ⟨a2, k2, e2⟩ := h.R.val [2, q, r]
  rw [(h.ms.2.2.1 q).1, hr] at e5
  rw [(h.ps.2.2.1 q).1, hr] at e1
  rw [(h.ms.2.2.2.1 q r).1] at e6
  rw [(h.ps.2.2.2.1 q r).1] at e2
  refine ⟨g5, k5, a6, k6, g1, k1, a2, k2, e5, t5, e6, ?_, e1, t1, e2, ?_, f5⟩
  · rw [← e6]; exact x5 _ _ ((h.ms.2.2.1 q).2 r (by omega))
  · rw [← e2]; exact x1 _ _ ((h.ps.2.2.1 q).2 r (by omega))

/-- The last warp on both sides. -/
theorem In.lastW {F : Interp} {a0 : Option Addr} {n c k b off : Nat} {u : Nat → Value} {w wr : World} {s : St3} {own : Nat → List Nat} {V : List Nat → Value} {C : List Nat → Nat} {X : List Nat → List Value} {q r p : Nat} {nc : Nat → Nat} {nw : Nat → Nat → Nat} {ni : Nat → Nat → Nat → Nat} {nm : Nat → ByteArray} {na : Nat}
    (h : In F a0 n c k b off u w wr s own V C X (q + 1) nc nw ni nm na) (hp : nw q r = p + 1) :
    ∃ g6 k6 g2 k2 a3 k3, V [6, q, r] = .slice (some ⟨g6, 0, none⟩) (p + 1) k6 ∧ g6 < wr.heap.size ∧ wr.cell? ⟨g6, p, none⟩ = some (.int .i64 (ni q r p)) ∧ V [2, q, r] = .slice (some ⟨g2, 0, none⟩) (p + 1) k2 ∧ g2 < wr.heap.size ∧ V [3, q, r, p] = .slice a3 (ni q r p) k3 ∧ wr.cell? ⟨g2, p, none⟩ = some (.slice a3 (ni q r p) k3) ∧ (∀ j, wr.frozen? ⟨g6, j, none⟩ = false) ∧ w.heap.size + 1 ≤ g6 := by
  obtain ⟨g6, k6, e6, l6, t6, -, -, x6, f6⟩ := h.R.at [6, q, r] (by rw [(h.ms.2.2.2.1 q r).1]; omega)
  obtain ⟨g2, k2, e2, l2, t2, -, -, x2, f2⟩ := h.R.at [2, q, r] (by rw [(h.ps.2.2.2.1 q r).1]; omega)
  obtain ⟨a3, k3, e3⟩ := h.R.val [3, q, r, p]
  rw [(h.ms.2.2.2.1 q r).1, hp] at e6
  rw [(h.ps.2.2.2.1 q r).1, hp] at e2
  rw [h.ps.2.2.2.2.1 q r p] at e3
  refine ⟨g6, k6, g2, k2, a3, k3, e6, t6, x6 _ _ ((h.ms.2.2.2.1 q r).2 p (by omega)), e2, t2, e3, ?_, f6, l6⟩
  rw [← e3]; exact x2 _ _ ((h.ps.2.2.2.1 q r).2 p (by omega))
end Go.Proofs.YbulkmvuFmt
