/-
  The round of 'LawS0670AScript': a second header.
-/
import Derived.Test.YbulkmvuFmtRound
namespace Go.Proofs.YbulkmvuFmt
open Go.RowKit Go.Extern.Stop Go.Stop Go.Extern
set_option linter.unusedVariables false

set_option maxHeartbeats 4000000 in
set_option maxRecDepth 1000000 in
theorem case6_again (F : Interp) (a0 : Option Addr) (n c k b off : Nat) (u : Nat → Value) (w wr : World) (s : St3) (own : Nat → List Nat) (V : List Nat → Value) (C : List Nat → Nat) (X : List Nat → List Value) (nk : Nat) (nc : Nat → Nat) (nw : Nat → Nat → Nat) (ni : Nat → Nat → Nat → Nat) (nm : Nat → ByteArray) (na : Nat) (K : Act → World → Prop) (Q : Exit → Act → World → Prop) (h : In F a0 n c k b off u w wr s own V C X nk nc nw ni nm na) (hop : (s.op : Int).tmod 7 = 6)
    (hK : ∀ arr w', Res a0 n c w k arr w' → K ⟨arr, []⟩ w') :
    Code.wp Ybaf.prog ((Ybaf.f4.body.bind firstLoop).getD .skip) (Exit.then K Q) ⟨frame a0 n c w.heap.size u, []⟩ wr := by
  obtain ⟨o1, o2, o3⟩ := h.hok
  have i1 : (s.op : Int) ≤ 255 := by omega
  have i2 : (s.n : Int) ≤ 255 := by omega
  have i3 : (s.a : Int) ≤ 18446744073709551615 := by omega
  have hu := h.hu
  have hkn := h.hkn
  have hn := h.hn
  have hlo := h.hlo
  have hb1 := h.b1
  have hu4 := h.hu4
  obtain ⟨m0, mm, hv4⟩ := h.R.val [4]
  rw [h.ms.1] at hv4
  obtain rfl := h.ha
  have c0 := h.c0
  have c1 := h.c1
  have c2 := h.c2
  unfold frame
  rw [hu, hu4, hv4]
  conv => arg 2; whnf
  have HK := hide hK
  have HI := hide h
  have HV4 := hide hv4
  clear hK h hv4 hu hu4
  go_wp2_with fail
  all_goals (
    generalize hw2 : (wr.alloc _).alloc _ = w2
    have hb2 : Below wr.heap.size wr w2 := by rw [← hw2]; exact ((Below.refl _ _).alloc (Nat.le_refl _) _).alloc (by simp) _
    have hs2 : w2.heap.size = wr.heap.size + 2 := by rw [← hw2]; simp
    have ck : w2.cell? ⟨wr.heap.size + 1, 0, none⟩ = some (.string ⟨#[112, 97, 103, 101, 119, 114, 105, 103, 104, 116, 45, 116, 114, 97, 99, 101]⟩) := by
      rw [← hw2]
      simp
    have hF2 : F.answers w2.tape := by rw [hb2.tape]; exact HI.out.hF
    have hpar := parse_again F w2 own (w.heap.size + 1) w.heap.size (wr.heap.size + 1) 2 V C X ((k : Int) + 2) (HI.out.R.below hb2) ((hb2.block _ (by omega)).trans HI.out.hB) (by omega) (by omega) (by omega) hF2 ck
    refine hpar.mono ?_
    rintro e w3 ⟨⟨a, rfl⟩, hb3⟩
    have HB3 : Hid (Below wr.heap.size wr w3) := hide (hb2.trans (hb3.mono hb2.size))
    clear hw2 hb2 hs2 ck hF2 hpar hb3 c0 c1 c2
    go_wp2_with fail
    refine HK.out _ w3 (HI.out.done ?_ rfl ?_ rfl rfl rfl HB3.out)
    · kernel_rfl
    · exact HV4.out.symm)
end Go.Proofs.YbulkmvuFmt
