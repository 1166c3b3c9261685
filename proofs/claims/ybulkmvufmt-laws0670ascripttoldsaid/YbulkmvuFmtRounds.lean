/-
  The round of 'LawS0670AScript', whatever the step.
-/
import Derived.Test.YbulkmvuFmtCase0
import Derived.Test.YbulkmvuFmtCase1a
import Derived.Test.YbulkmvuFmtCase1b
import Derived.Test.YbulkmvuFmtCase1c
import Derived.Test.YbulkmvuFmtCase2a
import Derived.Test.YbulkmvuFmtCase2b
import Derived.Test.YbulkmvuFmtCase2c
import Derived.Test.YbulkmvuFmtCase2d
import Derived.Test.YbulkmvuFmtCase3a
import Derived.Test.YbulkmvuFmtCase3b
import Derived.Test.YbulkmvuFmtCase3c
import Derived.Test.YbulkmvuFmtCase3d
import Derived.Test.YbulkmvuFmtCase5a
import Derived.Test.YbulkmvuFmtCase5b
import Derived.Test.YbulkmvuFmtCase5c
import Derived.Test.YbulkmvuFmtCase5d
import Derived.Test.YbulkmvuFmtCase6a
import Derived.Test.YbulkmvuFmtCase4ra
import Derived.Test.YbulkmvuFmtCase4rb
import Derived.Test.YbulkmvuFmtCase4rc
import Derived.Test.YbulkmvuFmtCase4rd
import Derived.Test.YbulkmvuFmtCase4re
import Derived.Test.YbulkmvuFmtCase4wa
import Derived.Test.YbulkmvuFmtCase4wb
import Derived.Test.YbulkmvuFmtCase4wc
import Derived.Test.YbulkmvuFmtCase4wd
import Derived.Test.YbulkmvuFmtCase4we
namespace Go.Proofs.YbulkmvuFmt
open Go.RowKit Go.Extern.Stop Go.Stop Go.Extern
set_option linter.unusedVariables false

theorem round (F : Interp) (a0 : Option Addr) (n c k b off : Nat) (u : Nat → Value) (w wr : World) (s : St3) (own : Nat → List Nat) (V : List Nat → Value) (C : List Nat → Nat) (X : List Nat → List Value) (nk : Nat) (nc : Nat → Nat) (nw : Nat → Nat → Nat) (ni : Nat → Nat → Nat → Nat) (nm : Nat → ByteArray) (na : Nat) (K : Act → World → Prop) (Q : Exit → Act → World → Prop) (h : In F a0 n c k b off u w wr s own V C X nk nc nw ni nm na)
    (hK : ∀ arr w', Res a0 n c w k arr w' → K ⟨arr, []⟩ w') :
    Code.wp Ybaf.prog ((Ybaf.f4.body.bind firstLoop).getD .skip) (Exit.then K Q) ⟨frame a0 n c w.heap.size u, []⟩ wr := by
  have e7 : (s.op : Int).tmod 7 = (s.op : Int) % 7 := Int.tmod_eq_emod_of_nonneg (by omega)
  have e2 : (s.n : Int).tmod 2 = (s.n : Int) % 2 := Int.tmod_eq_emod_of_nonneg (by omega)
  have h7 : (s.op : Int).tmod 7 = 0 ∨ (s.op : Int).tmod 7 = 1 ∨ (s.op : Int).tmod 7 = 2 ∨ (s.op : Int).tmod 7 = 3 ∨ (s.op : Int).tmod 7 = 4 ∨ (s.op : Int).tmod 7 = 5 ∨ (s.op : Int).tmod 7 = 6 := by rw [e7]; omega
  have h2 : (s.n : Int).tmod 2 = 0 ∨ (s.n : Int).tmod 2 = 1 := by rw [e2]; omega
  have hnk : nk = 0 ∨ 0 < nk := by omega
  have hq : nc (nk - 1) = 0 ∨ 0 < nc (nk - 1) := by omega
  have hw : nw (nk - 1) (nc (nk - 1) - 1) = 0 ∨ 0 < nw (nk - 1) (nc (nk - 1) - 1) := by omega
  have h5 : s.n % 5 = 4 ∨ ¬ s.n % 5 = 4 := by omega
  have hkw : (128 : Int) ≤ (s.n : Int) ∨ ¬ (128 : Int) ≤ (s.n : Int) := by omega
  have hn0 : s.n = 0 ∨ 0 < s.n := by omega
  have hbg : 18446744073709551615 - s.a < s.n ∨ s.n ≤ 18446744073709551615 - s.a := by omega
  rcases h7 with o | o | o | o | o | o | o
  · exact case0 F a0 n c k b off u w wr s own V C X nk nc nw ni nm na K Q h o hK
  · rcases hnk with hnk | hnk
    · exact case1_none F a0 n c k b off u w wr s own V C X nk nc nw ni nm na K Q h o hnk hK
    · rcases h2 with h2 | h2
      · exact case1_even F a0 n c k b off u w wr s own V C X nk nc nw ni nm na K Q h o hnk h2 hK
      · exact case1_odd F a0 n c k b off u w wr s own V C X nk nc nw ni nm na K Q h o hnk h2 hK
  · rcases hnk with hnk | hnk
    · exact case2_none F a0 n c k b off u w wr s own V C X nk nc nw ni nm na K Q h o hnk hK
    · rcases hq with hq | hq
      · exact case2_none2 F a0 n c k b off u w wr s own V C X nk nc nw ni nm na K Q h o hnk hq hK
      · rcases h2 with h2 | h2
        · exact case2_even F a0 n c k b off u w wr s own V C X nk nc nw ni nm na K Q h o hnk hq h2 hK
        · exact case2_odd F a0 n c k b off u w wr s own V C X nk nc nw ni nm na K Q h o hnk hq h2 hK
  · rcases hnk with hnk | hnk
    · exact case3_none F a0 n c k b off u w wr s own V C X nk nc nw ni nm na K Q h o hnk hK
    · rcases hq with hq | hq
      · exact case3_none2 F a0 n c k b off u w wr s own V C X nk nc nw ni nm na K Q h o hnk hq hK
      · rcases hw with hw | hw
        · exact case3_none3 F a0 n c k b off u w wr s own V C X nk nc nw ni nm na K Q h o hnk hq hw hK
        · exact case3_warp F a0 n c k b off u w wr s own V C X nk nc nw ni nm na K Q h o hnk hq hw hK
  · rcases hkw with hkw | hkw
    · rcases hnk with hnk | hnk
      · exact case4_w_none F a0 n c k b off u w wr s own V C X nk nc nw ni nm na K Q h o hkw hnk hK
      · rcases hq with hq | hq
        · exact case4_w_none2 F a0 n c k b off u w wr s own V C X nk nc nw ni nm na K Q h o hkw hnk hq hK
        · rcases hw with hw | hw
          · exact case4_w_none3 F a0 n c k b off u w wr s own V C X nk nc nw ni nm na K Q h o hkw hnk hq hw hK
          · rcases h5 with h5 | h5
            · exact case4_w_five F a0 n c k b off u w wr s own V C X nk nc nw ni nm na K Q h o hkw hnk hq hw h5 hK
            · exact case4_w_warp F a0 n c k b off u w wr s own V C X nk nc nw ni nm na K Q h o hkw hnk hq hw h5 hK
    · rcases hnk with hnk | hnk
      · exact case4_r_none F a0 n c k b off u w wr s own V C X nk nc nw ni nm na K Q h o hkw hnk hK
      · rcases hq with hq | hq
        · exact case4_r_none2 F a0 n c k b off u w wr s own V C X nk nc nw ni nm na K Q h o hkw hnk hq hK
        · rcases hw with hw | hw
          · exact case4_r_none3 F a0 n c k b off u w wr s own V C X nk nc nw ni nm na K Q h o hkw hnk hq hw hK
          · rcases h5 with h5 | h5
            · exact case4_r_five F a0 n c k b off u w wr s own V C X nk nc nw ni nm na K Q h o hkw hnk hq hw h5 hK
            · exact case4_r_warp F a0 n c k b off u w wr s own V C X nk nc nw ni nm na K Q h o hkw hnk hq hw h5 hK
  · rcases hnk with hnk | hnk
    · rcases hn0 with hn0 | hn0
      · exact case5_zero F a0 n c k b off u w wr s own V C X nk nc nw ni nm na K Q h o hnk hn0 hK
      · rcases hbg with hbg | hbg
        · exact case5_big F a0 n c k b off u w wr s own V C X nk nc nw ni nm na K Q h o hnk hn0 hbg hK
        · exact case5_ok F a0 n c k b off u w wr s own V C X nk nc nw ni nm na K Q h o hnk hn0 hbg hK
    · exact case5_late F a0 n c k b off u w wr s own V C X nk nc nw ni nm na K Q h o hnk hK
  · exact case6_again F a0 n c k b off u w wr s own V C X nk nc nw ni nm na K Q h o hK
end Go.Proofs.YbulkmvuFmt
