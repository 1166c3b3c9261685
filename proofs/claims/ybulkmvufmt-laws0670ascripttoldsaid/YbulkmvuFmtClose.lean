/-
  What a round of 'LawS0670AScript' leaves, where a line was added.
-/
import Derived.Test.YbulkmvuFmtRound
namespace Go.Proofs.YbulkmvuFmt
open Go.RowKit Go.Extern.Stop Go.Stop Go.Extern
set_option linter.unusedVariables false

theorem In.res_cta {F : Interp} {a0 : Option Addr} {n c k b off : Nat} {u : Nat → Value} {w wr w' : World} {s : St3} {own : Nat → List Nat} {V : List Nat → Value} {C : List Nat → Nat} {X : List Nat → List Value} {q : Nat} {nc : Nat → Nat} {nw : Nat → Nat → Nat} {ni : Nat → Nat → Nat → Nat} {nm : Nat → ByteArray} {na : Nat} {arr : Array Value}
    (h : In F a0 n c k b off u w wr s own V C X (q + 1) nc nw ni nm na) (h1 : arr = frame a0 n c w.heap.size (fun i => arr.getD i undef)) (h2 : arr.getD 52 undef = .int .i64 ((k : Int) + 1)) (h4 : arr.getD 4 undef = V [4]) (h5 : arr.getD 5 undef = u 5) (h6 : arr.getD 6 undef = u 6) (h7 : arr.getD 7 undef = u 7)
    {V5 : List Nat → Value} {C5 : List Nat → Nat} {X5 : List Nat → List Value} {v5 v1 : Value} {own' : Nat → List Nat} (hV5 : V5 = upd V [5, q] v5) (hC5 : C5 = upd C [5, q] (C [5, q] + 1)) (hX5 : X5 = upd (upd X [5, q] (X [5, q] ++ [.slice none 0 0])) [4] ((X [4]).set q v5))
    (hk : Kp w.heap.size (w.heap.size + 1) wr w') (R' : Rws w' own' (w.heap.size + 1) (upd V5 [1, q] v1) (upd C5 [1, q] (C5 [1, q] + 1)) (upd (upd X5 [1, q] (X5 [1, q] ++ [.slice none 0 0])) [0] ((X5 [0]).set (q * 2 + 1) v1))) (hB' : PBx w' w.heap.size V5) : Res a0 n c w k arr w' := by
  have ps5 : PSh (q + 1) nc nw ni nm V5 C5 X5 := by
    subst hV5 hC5 hX5
    exact h.ps.same (fun a m ha => by rw [upd_other _ _ (ne_head (by omega))]) (fun a m ha => by rw [upd_other _ _ (ne_head (by omega))]) (fun a m ha => by rw [upd_other _ _ (ne_head (by omega)), upd_other _ _ (ne_head (by omega))])
  have ms5 : MSh (q + 1) (bump1 nc q) nw ni nm V5 C5 X5 := by
    subst hV5 hC5 hX5
    exact h.ms.cta q (by omega) (by rw [h.R.len [5, q], (h.ms.2.2.1 q).1]; simp [S]) v5
  have as5 : ASh na C5 X5 := by
    subst hC5 hX5
    exact h.al.same (fun a m ha => by rw [upd_other _ _ (ne_head (by omega))]) (fun a m ha => by rw [upd_other _ _ (ne_head (by omega)), upd_other _ _ (ne_head (by omega))])
  have l1 : (X5 [1, q]).length = nc q := by
    subst hX5
    rw [upd_other _ _ (ne_head (by omega)), upd_other _ _ (ne_head (by omega)), h.R.len [1, q], (h.ps.2.2.1 q).1]; simp [S]
  have e4 : V5 [4] = V [4] := by subst hV5; exact upd_other _ _ (ne_head (by omega))
  have e7 : V5 [7] = V [7] := by subst hV5; exact upd_other _ _ (ne_head (by omega))
  have e10 : V5 [10] = V [10] := by subst hV5; exact upd_other _ _ (ne_head (by omega))
  have e11 : V5 [11] = V [11] := by subst hV5; exact upd_other _ _ (ne_head (by omega))
  refine ⟨h1, h2, own', _, _, _, ?_, ?_, ?_, ?_, h.more hk R' (hB'.same (upd_other _ _ (ne_head (by omega))) (upd_other _ _ (ne_head (by omega))) (upd_other _ _ (ne_head (by omega)))) (ps5.cta q (by omega) l1 v1) (ms5.same (fun a m ha hb => by rw [upd_other _ _ (ne_head (by omega))]) (fun a m ha hb => by rw [upd_other _ _ (ne_head (by omega))]) (fun a m ha hb => by rw [upd_other _ _ (ne_head (by omega)), upd_other _ _ (ne_head (by omega))])) (as5.same (fun a m ha => by rw [upd_other _ _ (ne_head (by omega))]) (fun a m ha => by rw [upd_other _ _ (ne_head (by omega)), upd_other _ _ (ne_head (by omega))])) (by have := h.b1; omega) (fun i => bump1_le _ _ _ (h.b2 i)) (fun i j => by have := h.b3 i j; omega) (fun i j p => by have := h.b4 i j p; omega) (by have := h.b5; omega)⟩
  · rw [upd_other _ _ (ne_head (by omega)), e4]; exact h4
  · rw [upd_other _ _ (ne_head (by omega)), e7]; exact h5.trans h.hu5
  · rw [upd_other _ _ (ne_head (by omega)), e10]; exact h6.trans h.hu6
  · rw [upd_other _ _ (ne_head (by omega)), e11]; exact h7.trans h.hu7

theorem In.res_warp {F : Interp} {a0 : Option Addr} {n c k b off : Nat} {u : Nat → Value} {w wr w' : World} {s : St3} {own : Nat → List Nat} {V : List Nat → Value} {C : List Nat → Nat} {X : List Nat → List Value} {q r : Nat} {nc : Nat → Nat} {nw : Nat → Nat → Nat} {ni : Nat → Nat → Nat → Nat} {nm : Nat → ByteArray} {na : Nat} {arr : Array Value}
    (h : In F a0 n c k b off u w wr s own V C X (q + 1) nc nw ni nm na) (h1 : arr = frame a0 n c w.heap.size (fun i => arr.getD i undef)) (h2 : arr.getD 52 undef = .int .i64 ((k : Int) + 1)) (h4 : arr.getD 4 undef = V [4]) (h5 : arr.getD 5 undef = u 5) (h6 : arr.getD 6 undef = u 6) (h7 : arr.getD 7 undef = u 7) (hr : nc q = r + 1)
    {V5 : List Nat → Value} {C5 : List Nat → Nat} {X5 : List Nat → List Value} {v5 v1 : Value} {own' : Nat → List Nat} (hV5 : V5 = upd V [6, q, r] v5) (hC5 : C5 = upd C [6, q, r] (C [6, q, r] + 1)) (hX5 : X5 = upd (upd X [6, q, r] (X [6, q, r] ++ [.int .i64 0])) [5, q] ((X [5, q]).set r v5))
    (hk : Kp w.heap.size (w.heap.size + 1) wr w') (R' : Rws w' own' (w.heap.size + 1) (upd V5 [2, q, r] v1) (upd C5 [2, q, r] (C5 [2, q, r] + 1)) (upd (upd X5 [2, q, r] (X5 [2, q, r] ++ [.slice none 0 0])) [1, q] ((X5 [1, q]).set r v1))) (hB' : PBx w' w.heap.size V5) : Res a0 n c w k arr w' := by
  have ps5 : PSh (q + 1) nc nw ni nm V5 C5 X5 := by
    subst hV5 hC5 hX5
    exact h.ps.same (fun a m ha => by rw [upd_other _ _ (ne_head (by omega))]) (fun a m ha => by rw [upd_other _ _ (ne_head (by omega))]) (fun a m ha => by rw [upd_other _ _ (ne_head (by omega)), upd_other _ _ (ne_head (by omega))])
  have ms5 : MSh (q + 1) nc (bump2 nw q r) ni nm V5 C5 X5 := by
    subst hV5 hC5 hX5
    exact h.ms.warp q r (by omega) (by rw [h.R.len [6, q, r], (h.ms.2.2.2.1 q r).1]; simp [S]) (h.ps.2.2.2.2.2.2.2 q r _ (Nat.le_refl _)).2 v5
  have as5 : ASh na C5 X5 := by
    subst hC5 hX5
    exact h.al.same (fun a m ha => by rw [upd_other _ _ (ne_head (by omega))]) (fun a m ha => by rw [upd_other _ _ (ne_head (by omega)), upd_other _ _ (ne_head (by omega))])
  have l1 : (X5 [2, q, r]).length = nw q r := by
    subst hX5
    rw [upd_other _ _ (ne_head (by omega)), upd_other _ _ (ne_head (by omega)), h.R.len [2, q, r], (h.ps.2.2.2.1 q r).1]; simp [S]
  have e4 : V5 [4] = V [4] := by subst hV5; exact upd_other _ _ (ne_head (by omega))
  have e7 : V5 [7] = V [7] := by subst hV5; exact upd_other _ _ (ne_head (by omega))
  have e10 : V5 [10] = V [10] := by subst hV5; exact upd_other _ _ (ne_head (by omega))
  have e11 : V5 [11] = V [11] := by subst hV5; exact upd_other _ _ (ne_head (by omega))
  refine ⟨h1, h2, own', _, _, _, ?_, ?_, ?_, ?_, h.more hk R' (hB'.same (upd_other _ _ (ne_head (by omega))) (upd_other _ _ (ne_head (by omega))) (upd_other _ _ (ne_head (by omega)))) (ps5.warp q r (by omega) l1 v1) (ms5.same (fun a m ha hb => by rw [upd_other _ _ (ne_head (by omega))]) (fun a m ha hb => by rw [upd_other _ _ (ne_head (by omega))]) (fun a m ha hb => by rw [upd_other _ _ (ne_head (by omega)), upd_other _ _ (ne_head (by omega))])) (as5.same (fun a m ha => by rw [upd_other _ _ (ne_head (by omega))]) (fun a m ha => by rw [upd_other _ _ (ne_head (by omega)), upd_other _ _ (ne_head (by omega))])) (by have := h.b1; omega) (fun i => by have := h.b2 i; omega) (fun i j => bump2_le _ _ _ _ _ (h.b3 i j)) (fun i j p => by have := h.b4 i j p; omega) (by have := h.b5; omega)⟩
  · rw [upd_other _ _ (ne_head (by omega)), e4]; exact h4
  · rw [upd_other _ _ (ne_head (by omega)), e7]; exact h5.trans h.hu5
  · rw [upd_other _ _ (ne_head (by omega)), e10]; exact h6.trans h.hu6
  · rw [upd_other _ _ (ne_head (by omega)), e11]; exact h7.trans h.hu7

theorem In.res_ins {F : Interp} {a0 : Option Addr} {n c k b off : Nat} {u : Nat → Value} {w wr w' : World} {s : St3} {own : Nat → List Nat} {V : List Nat → Value} {C : List Nat → Nat} {X : List Nat → List Value} {q r p : Nat} {nc : Nat → Nat} {nw : Nat → Nat → Nat} {ni : Nat → Nat → Nat → Nat} {nm : Nat → ByteArray} {na : Nat} {arr : Array Value}
    (h : In F a0 n c k b off u w wr s own V C X (q + 1) nc nw ni nm na) (h1 : arr = frame a0 n c w.heap.size (fun i => arr.getD i undef)) (h2 : arr.getD 52 undef = .int .i64 ((k : Int) + 1)) (h4 : arr.getD 4 undef = V [4]) (h5 : arr.getD 5 undef = u 5) (h6 : arr.getD 6 undef = u 6) (h7 : arr.getD 7 undef = u 7) (hr : nc q = r + 1) (hp : nw q r = p + 1)
    {X5 : List Nat → List Value} {v1 : Value} {cs : List Value} {own' : Nat → List Nat} (hX5 : X5 = upd X [6, q, r] ((X [6, q, r]).set p (.int .i64 ((ni q r p : Int) + 1))))
    (hk : Kp w.heap.size (w.heap.size + 1) wr w') (R' : Rws w' own' (w.heap.size + 1) (upd V [3, q, r, p] v1) (upd C [3, q, r, p] (C [3, q, r, p] + 1)) (upd (upd X5 [3, q, r, p] (X5 [3, q, r, p] ++ cs)) [2, q, r] ((X5 [2, q, r]).set p v1))) (hB' : PBx w' w.heap.size V) : Res a0 n c w k arr w' := by
  have ps5 : PSh (q + 1) nc nw ni nm V C X5 := by
    subst hX5
    exact h.ps.same (fun _ _ _ => rfl) (fun _ _ _ => rfl) (fun a m ha => by rw [upd_other _ _ (ne_head (by omega))])
  have ms5 : MSh (q + 1) nc nw (bump3 ni q r p) nm V C X5 := by
    subst hX5
    exact h.ms.ins q r p (by omega)
  have as5 : ASh na C X5 := by
    subst hX5
    exact h.al.same (fun _ _ _ => rfl) (fun a m ha => by rw [upd_other _ _ (ne_head (by omega))])
  refine ⟨h1, h2, own', _, _, _, ?_, ?_, ?_, ?_, h.more hk R' (hB'.same (upd_other _ _ (ne_head (by omega))) (upd_other _ _ (ne_head (by omega))) (upd_other _ _ (ne_head (by omega)))) (ps5.ins q r p (by omega) v1 cs) (ms5.same (fun a m ha hb => by rw [upd_other _ _ (ne_head (by omega))]) (fun a m ha hb => by rw [upd_other _ _ (ne_head (by omega))]) (fun a m ha hb => by rw [upd_other _ _ (ne_head (by omega)), upd_other _ _ (ne_head (by omega))])) (as5.same (fun a m ha => by rw [upd_other _ _ (ne_head (by omega))]) (fun a m ha => by rw [upd_other _ _ (ne_head (by omega)), upd_other _ _ (ne_head (by omega))])) (by have := h.b1; omega) (fun i => by have := h.b2 i; omega) (fun i j => by have := h.b3 i j; omega) (fun i j p' => bump3_le _ _ _ _ _ _ _ (h.b4 i j p')) (by have := h.b5; omega)⟩
  · rw [upd_other _ _ (ne_head (by omega))]; exact h4
  · rw [upd_other _ _ (ne_head (by omega))]; exact h5.trans h.hu5
  · rw [upd_other _ _ (ne_head (by omega))]; exact h6.trans h.hu6
  · rw [upd_other _ _ (ne_head (by omega))]; exact h7.trans h.hu7

theorem In.res_kernel {F : Interp} {a0 : Option Addr} {n c k b off : Nat} {u : Nat → Value} {w wr w' : World} {s : St3} {own : Nat → List Nat} {V : List Nat → Value} {C : List Nat → Nat} {X : List Nat → List Value} {nk : Nat} {nc : Nat → Nat} {nw : Nat → Nat → Nat} {ni : Nat → Nat → Nat → Nat} {nm : Nat → ByteArray} {na : Nat} {arr : Array Value}
    (h : In F a0 n c k b off u w wr s own V C X nk nc nw ni nm na) (h1 : arr = frame a0 n c w.heap.size (fun i => arr.getD i undef)) (h2 : arr.getD 52 undef = .int .i64 ((k : Int) + 1)) {v4 v7 v0 : Value} {name : ByteArray} (h4 : arr.getD 4 undef = v4) (h5 : arr.getD 5 undef = v7) (h6 : arr.getD 6 undef = u 6) (h7 : arr.getD 7 undef = u 7)
    {V5 : List Nat → Value} {C5 : List Nat → Nat} {X5 : List Nat → List Value} {own' : Nat → List Nat} (hV5 : V5 = upd (upd V [4] v4) [7] v7) (hC5 : C5 = upd (upd C [4] (C [4] + 1)) [7] (C [7] + 1)) (hX5 : X5 = upd (upd X [4] (X [4] ++ [.slice none 0 0])) [7] (X [7] ++ [.string name]))
    (hk : Kp w.heap.size (w.heap.size + 1) wr w') (R' : Rws w' own' (w.heap.size + 1) (upd V5 [0] v0) (upd C5 [0] (C5 [0] + 1)) (upd X5 [0] (X5 [0] ++ [.string name, .slice none 0 0]))) (hB' : PBx w' w.heap.size (upd V5 [0] v0)) : Res a0 n c w k arr w' := by
  have ps5 : PSh nk nc nw ni nm V5 C5 X5 := by
    subst hV5 hC5 hX5
    exact h.ps.same (fun a m ha => by rw [upd_other _ _ (ne_head (by omega)), upd_other _ _ (ne_head (by omega))]) (fun a m ha => by rw [upd_other _ _ (ne_head (by omega)), upd_other _ _ (ne_head (by omega))]) (fun a m ha => by rw [upd_other _ _ (ne_head (by omega)), upd_other _ _ (ne_head (by omega))])
  have ms5 : MSh (nk + 1) nc nw ni (fun i => if i = nk then name else nm i) V5 C5 X5 := by
    subst hV5 hC5 hX5
    exact h.ms.kernel (by rw [h.R.len [4], h.ms.1]; simp [S]) (by rw [h.R.len [7], h.ms.2.2.2.2.1]; simp [S]) v4 v7 name
  have as5 : ASh na C5 X5 := by
    subst hC5 hX5
    exact h.al.same (fun a m ha => by rw [upd_other _ _ (ne_head (by omega)), upd_other _ _ (ne_head (by omega))]) (fun a m ha => by rw [upd_other _ _ (ne_head (by omega)), upd_other _ _ (ne_head (by omega))])
  have l1 : (X5 [0]).length = nk * 2 := by
    subst hX5
    rw [upd_other _ _ (ne_head (by omega)), upd_other _ _ (ne_head (by omega)), h.R.len [0], h.ps.1]; simp [S]
  have e4 : V5 [4] = v4 := by subst hV5; rw [upd_other _ _ (ne_head (by omega)), upd_same]
  have e7 : V5 [7] = v7 := by subst hV5; rw [upd_same]
  have e10 : V5 [10] = V [10] := by subst hV5; rw [upd_other _ _ (ne_head (by omega)), upd_other _ _ (ne_head (by omega))]
  have e11 : V5 [11] = V [11] := by subst hV5; rw [upd_other _ _ (ne_head (by omega)), upd_other _ _ (ne_head (by omega))]
  refine ⟨h1, h2, own', _, _, _, ?_, ?_, ?_, ?_, h.more hk R' hB' (ps5.kernel l1 v0 name) (ms5.same (fun a m ha hb => by rw [upd_other _ _ (ne_head (by omega))]) (fun a m ha hb => by rw [upd_other _ _ (ne_head (by omega))]) (fun a m ha hb => by rw [upd_other _ _ (ne_head (by omega))])) (as5.same (fun a m ha => by rw [upd_other _ _ (ne_head (by omega))]) (fun a m ha => by rw [upd_other _ _ (ne_head (by omega))])) (by have := h.b1; omega) (fun i => by have := h.b2 i; omega) (fun i j => by have := h.b3 i j; omega) (fun i j p => by have := h.b4 i j p; omega) (by have := h.b5; omega)⟩
  · rw [upd_other _ _ (ne_head (by omega)), e4]; exact h4
  · rw [upd_other _ _ (ne_head (by omega)), e7]; exact h5
  · rw [upd_other _ _ (ne_head (by omega)), e10]; exact h6.trans h.hu6
  · rw [upd_other _ _ (ne_head (by omega)), e11]; exact h7.trans h.hu7

theorem In.res_alloc {F : Interp} {a0 : Option Addr} {n c k b off : Nat} {u : Nat → Value} {w wr w' : World} {s : St3} {own : Nat → List Nat} {V : List Nat → Value} {C : List Nat → Nat} {X : List Nat → List Value} {nk : Nat} {nc : Nat → Nat} {nw : Nat → Nat → Nat} {ni : Nat → Nat → Nat → Nat} {nm : Nat → ByteArray} {na : Nat} {arr : Array Value}
    (h : In F a0 n c k b off u w wr s own V C X nk nc nw ni nm na) (h1 : arr = frame a0 n c w.heap.size (fun i => arr.getD i undef)) (h2 : arr.getD 52 undef = .int .i64 ((k : Int) + 1)) {v10 v11 v8 v9 : Value} {A N : Nat} {line : Int} (h4 : arr.getD 4 undef = V [4]) (h5 : arr.getD 5 undef = u 5) (h6 : arr.getD 6 undef = v10) (h7 : arr.getD 7 undef = v11)
    {V5 : List Nat → Value} {C5 : List Nat → Nat} {X5 : List Nat → List Value} {own' : Nat → List Nat} (hV5 : V5 = upd (upd V [10] v10) [11] v11) (hC5 : C5 = upd (upd C [10] (C [10] + 1)) [11] (C [11] + 1)) (hX5 : X5 = upd (upd X [10] (X [10] ++ [.int .u64 A, .int .u64 N])) [11] (X [11] ++ [.int .i64 line]))
    (hk : Kp w.heap.size (w.heap.size + 1) wr w') (R' : Rws w' own' (w.heap.size + 1) (upd (upd V5 [8] v8) [9] v9) (upd (upd C5 [8] (C5 [8] + 1)) [9] (C5 [9] + 1)) (upd (upd X5 [8] (X5 [8] ++ [.int .u64 A, .int .u64 N])) [9] (X5 [9] ++ [.int .i64 line]))) (hB' : PBx w' w.heap.size (upd (upd V5 [8] v8) [9] v9)) : Res a0 n c w k arr w' := by
  subst hV5 hC5 hX5
  refine ⟨h1, h2, own', _, _, _, ?_, ?_, ?_, ?_, h.more hk R' hB' (h.ps.same (fun a m ha => by rw [upd_other _ _ (ne_head (by omega)), upd_other _ _ (ne_head (by omega)), upd_other _ _ (ne_head (by omega)), upd_other _ _ (ne_head (by omega))]) (fun a m ha => by rw [upd_other _ _ (ne_head (by omega)), upd_other _ _ (ne_head (by omega)), upd_other _ _ (ne_head (by omega)), upd_other _ _ (ne_head (by omega))]) (fun a m ha => by rw [upd_other _ _ (ne_head (by omega)), upd_other _ _ (ne_head (by omega)), upd_other _ _ (ne_head (by omega)), upd_other _ _ (ne_head (by omega))])) (h.ms.same (fun a m ha hb => by rw [upd_other _ _ (ne_head (by omega)), upd_other _ _ (ne_head (by omega)), upd_other _ _ (ne_head (by omega)), upd_other _ _ (ne_head (by omega))]) (fun a m ha hb => by rw [upd_other _ _ (ne_head (by omega)), upd_other _ _ (ne_head (by omega)), upd_other _ _ (ne_head (by omega)), upd_other _ _ (ne_head (by omega))]) (fun a m ha hb => by rw [upd_other _ _ (ne_head (by omega)), upd_other _ _ (ne_head (by omega)), upd_other _ _ (ne_head (by omega)), upd_other _ _ (ne_head (by omega))])) (h.al.add (by rw [h.R.len [8], h.al.1]; simp [S]) (by rw [h.R.len [9], h.al.2.1]; simp [S]) A N line ?_ ?_ ?_ ?_ ?_ ?_ ?_ ?_) (by have := h.b1; omega) (fun i => by have := h.b2 i; omega) (fun i j => by have := h.b3 i j; omega) (fun i j p => by have := h.b4 i j p; omega) (by have := h.b5; omega)⟩
  · rw [upd_other _ _ (ne_head (by omega)), upd_other _ _ (ne_head (by omega)), upd_other _ _ (ne_head (by omega)), upd_other _ _ (ne_head (by omega))]; exact h4
  · rw [upd_other _ _ (ne_head (by omega)), upd_other _ _ (ne_head (by omega)), upd_other _ _ (ne_head (by omega)), upd_other _ _ (ne_head (by omega))]; exact h5.trans h.hu5
  · rw [upd_other _ _ (ne_head (by omega)), upd_other _ _ (ne_head (by omega)), upd_other _ _ (ne_head (by omega)), upd_same]; exact h6
  · rw [upd_other _ _ (ne_head (by omega)), upd_other _ _ (ne_head (by omega)), upd_same]; exact h7
  all_goals simp [upd]
end Go.Proofs.YbulkmvuFmt
