/-
  'parse' behind the header: lines of instructions.
-/
import Derived.Test.YbulkmvuFmtParseW
namespace Go.Proofs.YbulkmvuFmt
open Go.RowKit Go.Extern.Stop Go.Stop Go.Extern
set_option linter.unusedVariables false

theorem info53 : (Ybaf.prog.info? 53).map (fun i => (i.zero, i.size, i.bytes)) = some (some (.agg #[.int .u8 0, .slice none 0 0, .int .i64 0]), 3, 40) := by kernel_rfl

/-- 'append' to a row in a region that draws its order; what lies in no row's block is kept. -/
theorem step_append_rws' {ops : Array Oper} {o : Oper} {a : Act} {K : Act → World → Prop} {Q : Exit → Act → World → Prop} {E' : Prop} {w : World} {own : Nat → List Nat} {lo : Nat} {V : List Nat → Value} {C : List Nat → Nat} {X : List Nat → List Value} (hgd : o.guard = none) (s x : Operand) (ty : TypeId)
    (ho : o.op = .call { callee := .builtin .append, args := #[s, x], argTypes := #[ty, ty] }) (t : List Nat) (i : TypeInfo) (z : Value) (bytes : Nat) (ht : Ybaf.prog.underlying ty = some (.slice (E t))) (hi : Ybaf.prog.info? (E t) = some i) (hz : i.zero = some z)
    (hsize : i.size = S t) (hby : i.bytes = bytes) (hzs : z.cells.size = S t) (hsz : 0 < S t) (hs : a.eval s = V t) (R : Rws w own lo V C X)
    (ad : Addr) (c : Nat) (news : List Value) (hx : a.eval x = .slice (some ad) 1 c) (hl : news.length = S t) (hnews : ∀ j u, news[j]? = some u → w.cell? (ad.add j) = some u) (h1 : ∀ u ∈ news, u.oneCell' = true)
    (hC : C t ≤ 2000) (hb : bytes ≤ 1000) (hlo : lo ≤ w.heap.size)
    (h : ∀ v' w' own', Rws w' own' lo (upd V t v') (upd C t (C t + 1)) (upd X t (X t ++ news)) → Below lo w w' → w.heap.size ≤ w'.heap.size → (∀ q, q < w.heap.size → (∀ g, (V t).ownBlock = some g → q ≠ g) → w'.heap[q]? = w.heap[q]?) → (∃ g cap, v' = .slice (some ⟨g, 0, none⟩) (C t + 1) cap) → K (a.put o.dst v') w') :
    if Region.wanted o (yielded ops a.tmps) = true then Oper.wp Ybaf.prog o a w K Q else E' := by
  have hw : Region.wanted o (yielded ops a.tmps) = true := by simp [Region.wanted, hgd]
  rw [if_pos hw]
  obtain ⟨v', w', hr, k1, k2, k3, k4⟩ := run_append_own_at (P := Ybaf.prog) w lo ty o.type (E t) i z (S t) bytes ht hi hz hsize hby hzs hsz (V t) (C t) (X t) (R t).1 ad 1 c news (by omega) hnews h1 (by unfold maxLen; omega) (by
    have : (C t + 1) * bytes ≤ 2001 * 1000 := Nat.mul_le_mul (by omega) hb
    omega) hlo
  unfold Oper.wp execOp
  simp only [ho, resolve, invoke, builtin, Sem.run_bind, Sem.run_pure, Result.andThen_ok, List.map_toArray, List.map_cons, List.map_nil, hs, hx, hr]
  obtain ⟨own', R'⟩ := R.grow t k1 k2 k4
  refine h v' w' own' R' (R.grown_below t hlo k2) k2.size (fun q hq hg => k2.block q hq (fun e => hg q e.symm rfl)) ?_
  rcases k1.2 with ⟨_, h0⟩ | ⟨g, cap, cur, e1, _⟩
  · omega
  · exact ⟨g, cap, e1⟩

theorem cell_three_new (w : World) (a b c : Value) (t : TypeId) : ∀ j u, [a, b, c][j]? = some u → (w.alloc (.cells #[a, b, c] t)).cell? ((⟨w.heap.size, 0, none⟩ : Addr).add j) = some u := by
  intro j u hj
  match j, hj with
  | 0, hj => simp at hj; subst hj; simp [Addr.add]
  | 1, hj => simp at hj; subst hj; simp [Addr.add]
  | 2, hj => simp at hj; subst hj; simp [Addr.add]

set_option maxHeartbeats 4000000 in
set_option maxRecDepth 100000 in
theorem parse_c0 (F : Interp) (w : World) (own : Nat → List Nat) (lo B b c : Nat) (V : List Nat → Value) (C : List Nat → Nat) (X : List Nat → List Value) (line : Int) (R : Rws w own lo V C X) (hB : PBx w B V) (hBl : B < lo) (hlo : lo ≤ w.heap.size) (hc : 2 ≤ c) (n : Nat) (hn1 : 1 ≤ n) (hnc : n ≤ c) (hn2 : n ≤ 100) (hF : F.answers w.tape) (hno : ∀ k, Calls Ybaf.prog 8 #[.pointer (some ⟨B, 0, none⟩)] (w.drewN k) fun e w' => e = .returned (.pointer none) ∧ ∃ j, w' = (w.drewN k).drewN j)
    (hk : w.cell? ⟨b, 0, none⟩ = some (.string ⟨#[99]⟩)) :
    Calls Ybaf.prog 5 #[.pointer (some ⟨B, 0, none⟩), .slice (some ⟨b, 0, none⟩) (n) c, .int .i64 line] w fun e w' => (∃ a, e = .returned (.iface 75 (.pointer (some a)))) ∧ Below w.heap.size w w' := by
  have hn3 : (1 : Int) ≤ (n : Int) := by omega
  have hn4 : (0 : Int) < (n : Int) := by omega
  have hc1 : ¬ c = 1 := by omega
  have hp2 : (1 : Int) ≤ (c : Int) := by omega
  have h3 : w.cell? ⟨B, 3, none⟩ = some (.bool true) := by rw [cell_of_row _ _ _ _ _ _ hB]; rfl
  have RR := hide R
  have HB := hide hB
  clear R hB
  go_enter Ybaf.func5, Ybaf.ntmps5
  go_wp2_with fail
  go_quiet (fail)
  generalize hw1 : w.drewN nq = w1
  have hb1 : Below w.heap.size w w1 := by rw [← hw1]; exact below_drewN (Below.refl _ _) _
  have hs1 : w1.heap.size = w.heap.size := by rw [← hw1]; rfl
  have g3 : w1.cell? ⟨B, 3, none⟩ = some (.bool true) := by rw [← hw1]; exact h3
  have gB : w1.heap[B]? = some (.cells #[V [8], V [0], .int .i64 4, .bool true, V [9]] 29 (0, 0)) := by rw [← hw1]; exact HB.out
  have g1 : w1.cell? ⟨B, 1, none⟩ = some (V [0]) := by rw [cell_of_row _ _ _ _ _ _ gB]; rfl
  have R1 : Hid (Rws w1 own lo V C X) := hide (RR.out.below hb1)
  have HB1 := hide hb1
  have HGB := hide gB
  have HNO : Hid (Calls Ybaf.prog 8 #[.pointer (some ⟨B, 0, none⟩)] w1 fun e w' => e = .returned (.pointer none) ∧ ∃ j, w' = w1.drewN j) := hide (by rw [← hw1]; exact hno nq)
  have hF1 : F.answers w1.tape := by rw [← hw1]; exact hF
  clear hw1 hb1 h3 hk gB hno
  go_wp2_with (first | (go_at_call 8; refine HNO.out.mono ?_; rintro e w2 ⟨rfl, j, hj⟩; have HB2 : Hid (Below w1.heap.size w1 w2) := hide (by rw [hj]; exact below_drewN (Below.refl _ _) _); have hF2 : F.answers w2.tape := (by rw [hj]; exact hF1); clear hj) | fail)
  refine (err_s F _ _ w2.heap.size _ (by exact hF2) (fun w => by kernel_rfl) (boxed_cell w2 _ 20)).mono ?_
  rintro e w3 ⟨⟨a, rfl⟩, hb3⟩
  have HB3 : Hid (Below w.heap.size w w3) := hide (below_boxed (HB1.out.trans (HB2.out.mono HB1.out.size)) _ w3 hb3)
  clear hb3
  go_wp2_with fail
  go_ret
  exact ⟨⟨_, rfl⟩, HB3.out⟩

set_option maxHeartbeats 4000000 in
set_option maxRecDepth 100000 in
theorem parse_r0 (F : Interp) (w : World) (own : Nat → List Nat) (lo B b c : Nat) (V : List Nat → Value) (C : List Nat → Nat) (X : List Nat → List Value) (line : Int) (R : Rws w own lo V C X) (hB : PBx w B V) (hBl : B < lo) (hlo : lo ≤ w.heap.size) (hc : 2 ≤ c) (n : Nat) (hn1 : 1 ≤ n) (hnc : n ≤ c) (hn2 : n ≤ 100) (hF : F.answers w.tape) (hno : ∀ k, Calls Ybaf.prog 8 #[.pointer (some ⟨B, 0, none⟩)] (w.drewN k) fun e w' => e = .returned (.pointer none) ∧ ∃ j, w' = (w.drewN k).drewN j)
    (hk : w.cell? ⟨b, 0, none⟩ = some (.string ⟨#[114]⟩)) :
    Calls Ybaf.prog 5 #[.pointer (some ⟨B, 0, none⟩), .slice (some ⟨b, 0, none⟩) (n) c, .int .i64 line] w fun e w' => (∃ a, e = .returned (.iface 75 (.pointer (some a)))) ∧ Below w.heap.size w w' := by
  have hn3 : (1 : Int) ≤ (n : Int) := by omega
  have hn4 : (0 : Int) < (n : Int) := by omega
  have hc1 : ¬ c = 1 := by omega
  have hp2 : (1 : Int) ≤ (c : Int) := by omega
  have h3 : w.cell? ⟨B, 3, none⟩ = some (.bool true) := by rw [cell_of_row _ _ _ _ _ _ hB]; rfl
  have RR := hide R
  have HB := hide hB
  clear R hB
  go_enter Ybaf.func5, Ybaf.ntmps5
  go_wp2_with fail
  go_quiet (fail)
  generalize hw1 : w.drewN nq = w1
  have hb1 : Below w.heap.size w w1 := by rw [← hw1]; exact below_drewN (Below.refl _ _) _
  have hs1 : w1.heap.size = w.heap.size := by rw [← hw1]; rfl
  have g3 : w1.cell? ⟨B, 3, none⟩ = some (.bool true) := by rw [← hw1]; exact h3
  have gB : w1.heap[B]? = some (.cells #[V [8], V [0], .int .i64 4, .bool true, V [9]] 29 (0, 0)) := by rw [← hw1]; exact HB.out
  have g1 : w1.cell? ⟨B, 1, none⟩ = some (V [0]) := by rw [cell_of_row _ _ _ _ _ _ gB]; rfl
  have R1 : Hid (Rws w1 own lo V C X) := hide (RR.out.below hb1)
  have HB1 := hide hb1
  have HGB := hide gB
  have HNO : Hid (Calls Ybaf.prog 8 #[.pointer (some ⟨B, 0, none⟩)] w1 fun e w' => e = .returned (.pointer none) ∧ ∃ j, w' = w1.drewN j) := hide (by rw [← hw1]; exact hno nq)
  have hF1 : F.answers w1.tape := by rw [← hw1]; exact hF
  clear hw1 hb1 h3 hk gB hno
  go_wp2_with (first | (go_at_call 8; refine HNO.out.mono ?_; rintro e w2 ⟨rfl, j, hj⟩; have HB2 : Hid (Below w1.heap.size w1 w2) := hide (by rw [hj]; exact below_drewN (Below.refl _ _) _); have hF2 : F.answers w2.tape := (by rw [hj]; exact hF1); clear hj) | fail)
  refine (err_s F _ _ w2.heap.size _ (by exact hF2) (fun w => by kernel_rfl) (boxed_cell w2 _ 20)).mono ?_
  rintro e w3 ⟨⟨a, rfl⟩, hb3⟩
  have HB3 : Hid (Below w.heap.size w w3) := hide (below_boxed (HB1.out.trans (HB2.out.mono HB1.out.size)) _ w3 hb3)
  clear hb3
  go_wp2_with fail
  go_ret
  exact ⟨⟨_, rfl⟩, HB3.out⟩

set_option maxHeartbeats 4000000 in
set_option maxRecDepth 100000 in
theorem parse_w0 (F : Interp) (w : World) (own : Nat → List Nat) (lo B b c : Nat) (V : List Nat → Value) (C : List Nat → Nat) (X : List Nat → List Value) (line : Int) (R : Rws w own lo V C X) (hB : PBx w B V) (hBl : B < lo) (hlo : lo ≤ w.heap.size) (hc : 2 ≤ c) (n : Nat) (hn1 : 1 ≤ n) (hnc : n ≤ c) (hn2 : n ≤ 100) (hF : F.answers w.tape) (hno : ∀ k, Calls Ybaf.prog 8 #[.pointer (some ⟨B, 0, none⟩)] (w.drewN k) fun e w' => e = .returned (.pointer none) ∧ ∃ j, w' = (w.drewN k).drewN j)
    (hk : w.cell? ⟨b, 0, none⟩ = some (.string ⟨#[119]⟩)) :
    Calls Ybaf.prog 5 #[.pointer (some ⟨B, 0, none⟩), .slice (some ⟨b, 0, none⟩) (n) c, .int .i64 line] w fun e w' => (∃ a, e = .returned (.iface 75 (.pointer (some a)))) ∧ Below w.heap.size w w' := by
  have hn3 : (1 : Int) ≤ (n : Int) := by omega
  have hn4 : (0 : Int) < (n : Int) := by omega
  have hc1 : ¬ c = 1 := by omega
  have hp2 : (1 : Int) ≤ (c : Int) := by omega
  have h3 : w.cell? ⟨B, 3, none⟩ = some (.bool true) := by rw [cell_of_row _ _ _ _ _ _ hB]; rfl
  have RR := hide R
  have HB := hide hB
  clear R hB
  go_enter Ybaf.func5, Ybaf.ntmps5
  go_wp2_with fail
  go_quiet (fail)
  generalize hw1 : w.drewN nq = w1
  have hb1 : Below w.heap.size w w1 := by rw [← hw1]; exact below_drewN (Below.refl _ _) _
  have hs1 : w1.heap.size = w.heap.size := by rw [← hw1]; rfl
  have g3 : w1.cell? ⟨B, 3, none⟩ = some (.bool true) := by rw [← hw1]; exact h3
  have gB : w1.heap[B]? = some (.cells #[V [8], V [0], .int .i64 4, .bool true, V [9]] 29 (0, 0)) := by rw [← hw1]; exact HB.out
  have g1 : w1.cell? ⟨B, 1, none⟩ = some (V [0]) := by rw [cell_of_row _ _ _ _ _ _ gB]; rfl
  have R1 : Hid (Rws w1 own lo V C X) := hide (RR.out.below hb1)
  have HB1 := hide hb1
  have HGB := hide gB
  have HNO : Hid (Calls Ybaf.prog 8 #[.pointer (some ⟨B, 0, none⟩)] w1 fun e w' => e = .returned (.pointer none) ∧ ∃ j, w' = w1.drewN j) := hide (by rw [← hw1]; exact hno nq)
  have hF1 : F.answers w1.tape := by rw [← hw1]; exact hF
  clear hw1 hb1 h3 hk gB hno
  go_wp2_with (first | (go_at_call 8; refine HNO.out.mono ?_; rintro e w2 ⟨rfl, j, hj⟩; have HB2 : Hid (Below w1.heap.size w1 w2) := hide (by rw [hj]; exact below_drewN (Below.refl _ _) _); have hF2 : F.answers w2.tape := (by rw [hj]; exact hF1); clear hj) | fail)
  refine (err_s F _ _ w2.heap.size _ (by exact hF2) (fun w => by kernel_rfl) (boxed_cell w2 _ 20)).mono ?_
  rintro e w3 ⟨⟨a, rfl⟩, hb3⟩
  have HB3 : Hid (Below w.heap.size w w3) := hide (below_boxed (HB1.out.trans (HB2.out.mono HB1.out.size)) _ w3 hb3)
  clear hb3
  go_wp2_with fail
  go_ret
  exact ⟨⟨_, rfl⟩, HB3.out⟩

end Go.Proofs.YbulkmvuFmt
