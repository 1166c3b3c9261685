/-
  'LawS0669ACount': the walk.
-/
import Derived.Test.YbulkmvgBuild
namespace Go.Proofs.Ybulkmvg.Count
open Go.RowKit Go.Proofs.Ybulkmvg.Nodes Go.Proofs.Ybulkmvg.CountPlain Go.Proofs.Ybulkmvg.Build

theorem info24 : (Yba.prog.info? 24).map (fun i => (i.zero, i.size, i.bytes)) = some (some (.slice none 0 0), 1, 24) := by kernel_rfl
theorem info3 : (Yba.prog.info? 3).map (fun i => (i.zero, i.size, i.bytes)) = some (some (.int .i64 0), 1, 8) := by kernel_rfl

def ints (l : List Nat) : List Value := l.map fun (q : Nat) => Value.int .i64 (q : Int)

/-- The lists of children of the nodes below i: in block K a slice for each of the n nodes, each over a row of its own. -/
def RowsInv (w : World) (K n : Nat) (Ls : Nat → List Nat) (wr : World) : Prop :=
  ∃ cs : Array Value, wr.heap[K]? = some (.cells cs 24 (0, 0)) ∧ cs.size = n ∧
    (∀ v, v < n → ∃ ao cap, cs[v]? = some (.slice ao (Ls v).length cap) ∧ wr.ownsRow (K + 1) 3 1 (.slice ao (Ls v).length cap) (Ls v).length (ints (Ls v))) ∧
    (∀ (u v : Nat) (x y : Value) (g : Nat), u ≠ v → cs[u]? = some x → cs[v]? = some y → x.ownBlock = some g → y.ownBlock ≠ some g) ∧
    Below K w wr

theorem rows_step {w wr w2 : World} {K n : Nat} {Ls Ls' : Nat → List Nat} {cs : Array Value} {p i : Nat} {ao : Option Addr} {cap g cap' : Nat} {o : Obj} (_hKw : K ≤ w.heap.size)
    (hB : wr.heap[K]? = some (.cells cs 24 (0, 0))) (hn : cs.size = n)
    (hr : ∀ v, v < n → ∃ ao cap, cs[v]? = some (.slice ao (Ls v).length cap) ∧ wr.ownsRow (K + 1) 3 1 (.slice ao (Ls v).length cap) (Ls v).length (ints (Ls v)))
    (hd : ∀ (u v : Nat) (x y : Value) (g : Nat), u ≠ v → cs[u]? = some x → cs[v]? = some y → x.ownBlock = some g → y.ownBlock ≠ some g)
    (hbel : Below K w wr) (hp : p < n) (hcp : cs[p]? = some (.slice ao (Ls p).length cap))
    (hown : wr.ownsRow (K + 1) 3 1 (.slice ao (Ls p).length cap) (Ls p).length (ints (Ls p)))
    (hhit : Ls' p = Ls p ++ [i]) (hmiss : ∀ v, v ≠ p → Ls' v = Ls v)
    (hown2 : w2.ownsRow (K + 1) 3 1 (.slice (some ⟨g, 0, none⟩) ((Ls p).length + 1) cap') ((Ls p).length + 1) (ints (Ls p) ++ [.int .i64 (i : Int)]))
    (hgr : (wr.alloc o).grownBy w2 (Value.slice ao (Ls p).length cap).ownBlock) (hat : (Value.slice ao (Ls p).length cap).ownBlock = some g ∨ g = wr.heap.size + 1) :
    w2.heap[K]? = some (.cells cs 24 (0, 0)) ∧ RowsInv w K n Ls' (w2.setCell ⟨K, p, none⟩ (.slice (some ⟨g, 0, none⟩) ((Ls p).length + 1) cap')) := by
  have hlt : K < wr.heap.size := lt_of_block hB
  have hne : some K ≠ (Value.slice ao (Ls p).length cap).ownBlock := fun e => by have := (hown.lt K e.symm).1; omega
  have hB2 : w2.heap[K]? = some (.cells cs 24 (0, 0)) := by rw [hgr.block K (by simp; omega) hne, Below.heap_alloc _ _ _ hlt]; exact hB
  have hlen' : (Ls' p).length = (Ls p).length + 1 := by rw [hhit]; simp
  refine ⟨hB2, cs.setIfInBounds p (.slice (some ⟨g, 0, none⟩) ((Ls p).length + 1) cap'), heap_setCell_same _ _ _ _ _ _ hB2, by simp [hn], ?_, ?_, ?_⟩
  · intro v hv
    by_cases hvp : v = p
    · subst hvp
      refine ⟨some ⟨g, 0, none⟩, cap', ?_, ?_⟩
      · rw [hlen', Array.getElem?_setIfInBounds_self_of_lt (by omega)]
      · rw [hlen', hhit]
        have : ints (Ls v ++ [i]) = ints (Ls v) ++ [.int .i64 (i : Int)] := by simp [ints]
        rw [this]
        exact ownsRow_setCell_below hown2 (by simp) _
    · rw [hmiss v hvp]
      obtain ⟨ao1, cap1, h1, h2⟩ := hr v hv
      refine ⟨ao1, cap1, ?_, ?_⟩
      · rw [Array.getElem?_setIfInBounds_ne (by omega)]; exact h1
      · refine ownsRow_setCell_below ((h2.alloc o).kept hgr ?_) (by simp) _
        cases hx : (Value.slice ao1 (Ls v).length cap1).ownBlock with
        | none => exact .inl rfl
        | some q =>
          right
          intro e
          exact hd v p _ _ q hvp h1 hcp hx e.symm
  · intro u v x y q huv hu hv hxq hyq
    by_cases hup : u = p
    · subst hup
      rw [Array.getElem?_setIfInBounds_self_of_lt (by omega)] at hu
      rw [Array.getElem?_setIfInBounds_ne (by omega)] at hv
      simp only [Option.some.injEq] at hu
      subst hu
      simp only [Value.ownBlock, Option.some.injEq] at hxq
      subst hxq
      rcases hat with hat | hat
      · exact hd u v _ _ _ huv hcp hv hat hyq
      · have hvn : v < n := by have := (Array.getElem?_eq_some_iff.1 hv).1; omega
        obtain ⟨ao1, cap1, h1, h2⟩ := hr v hvn
        rw [h1] at hv
        simp only [Option.some.injEq] at hv
        subst hv
        have := (h2.lt _ hyq).2
        omega
    · rw [Array.getElem?_setIfInBounds_ne (by omega)] at hu
      by_cases hvp : v = p
      · subst hvp
        rw [Array.getElem?_setIfInBounds_self_of_lt (by omega)] at hv
        simp only [Option.some.injEq] at hv
        subst hv
        simp only [Value.ownBlock, Option.some.injEq] at hyq
        subst hyq
        rcases hat with hat | hat
        · exact hd v u _ _ _ (fun e => huv e.symm) hcp hu hat hxq
        · have hun : u < n := by have := (Array.getElem?_eq_some_iff.1 hu).1; omega
          obtain ⟨ao1, cap1, h1, h2⟩ := hr u hun
          rw [h1] at hu
          simp only [Option.some.injEq] at hu
          subst hu
          have := (h2.lt _ hxq).2
          omega
      · rw [Array.getElem?_setIfInBounds_ne (by omega)] at hv
        exact hd u v _ _ _ huv hu hv hxq hyq
  · have h3 : Below K w w2 := (hbel.alloc (by omega) o).grown hgr (by simp; omega) (fun q hq => by have := (hown.lt q hq).1; omega)
    exact h3.setCell (p := ⟨K, p, none⟩) (Nat.le_refl _) _

theorem rows_kids {w wr : World} {K n : Nat} {Ls : Nat → List Nat} (h : RowsInv w K n Ls wr) : KidsAt wr K n Ls := by
  obtain ⟨cs, hB, hn, hr, _, _⟩ := h
  intro v hv
  obtain ⟨ao, cap, h1, h2⟩ := hr v hv
  refine ⟨ao, cap, by rw [cell_of_row _ _ _ _ _ _ hB]; exact h1, fun j hj => ?_⟩
  obtain ⟨g, cap', hf, _, _⟩ := h2.form (by omega)
  simp only [Value.slice.injEq] at hf
  obtain ⟨rfl, _, rfl⟩ := hf
  refine ⟨g, rfl, ?_⟩
  have c := h2.cells (g := g) rfl j (.int .i64 ((Ls v).getD j 0 : Nat)) (by simp [ints, List.getD_eq_getElem?_getD, List.getElem?_eq_getElem hj])
  rw [add0] at c
  exact c

theorem rows_start {w w1 : World} {n : Nat} (hgr : w.grownBy w1 none) (hown : w1.ownsRow w.heap.size 24 1 (.slice (some ⟨w.heap.size, 0, none⟩) n n) n (madeCells #[Value.slice none 0 0] n).toList) (Ls : Nat → List Nat) (hL : ∀ v, Ls v = []) :
    RowsInv w w.heap.size n Ls w1 := by
  rw [toList_madeCells_one] at hown
  rcases hown.2 with ⟨h, _⟩ | ⟨g, cap, cur, hv, _, hg, _, _, hcs, htake⟩
  · simp at h
  · simp only [Value.slice.injEq, Option.some.injEq, Addr.mk.injEq, and_true, true_and] at hv
    obtain ⟨rfl, rfl⟩ := hv
    have hcur : ∀ v, v < n → cur[v]? = some (.slice none 0 0) := fun v hv => by
      have h1 : (cur.toList.take (n * 1))[v]? = some (.slice none 0 0) := by rw [htake]; simp [hv]
      rw [List.getElem?_take] at h1
      simpa [hv] using h1
    have hall : ∀ u x, cur[u]? = some x → x = Value.slice none 0 0 := fun u x hx => by
      have hu : u < n := by have := (Array.getElem?_eq_some_iff.1 hx).1; omega
      rw [hcur u hu] at hx
      simpa using hx.symm
    refine ⟨cur, hg, by omega, fun v hv => ⟨none, 0, ?_, ?_⟩, ?_, below_of_grown hgr⟩
    · rw [hL v]; exact hcur v hv
    · rw [hL v]; exact World.ownsRow_nil _ _ _ _
    · intro u v x y q _ hx _ hxq _
      rw [hall u x hx] at hxq
      simp [Value.ownBlock] at hxq

theorem one1 (i : Nat) : ∀ u ∈ [Value.int .i64 (i : Int)], u.oneCell' = true := by
  intro u hu
  simp at hu
  subst hu
  rfl

theorem ret_bool {b : Bool} (h : b = true) : Ending.returned (.bool b) = .returned (.bool true) := by rw [h]

/-- Node i's parent, as the law reckons it out of the bytes. -/
def par (zs : List Nat) (i : Nat) : Nat := zs.getD (i - 1) 0 % i

set_option maxRecDepth 100000 in
set_option maxHeartbeats 1000000 in
theorem walk (b off len cap : Nat) (zs : List Nat) (ka : Option Addr) (w : World) (hl : len ≤ 1024) (hka : 0 < len → ka = some ⟨b, off, none⟩) (hz : ∀ i, i < len → w.cell? ⟨b, off + i, none⟩ = some (.int .u8 (zs.getD i 0 : Nat))) (hz2 : ∀ i, zs.getD i 0 ≤ 255) :
    Calls Yba.prog 3 #[.slice ka len cap] w fun e w' => e = .returned (.bool true) ∧ Below w.heap.size w w' := by
  obtain ⟨i24, hi, hz0, hz1, hzb⟩ := info_parts info24
  obtain ⟨i3, hj, hy0, hy1, hyb⟩ := info_parts info3
  have HZ := hide hz
  have HZ2 := hide hz2
  have HKA := hide hka
  clear hz hz2 hka
  go_enter Yba.func3, Yba.ntmps3
  go_wp2_with (at_make; refine wpList_make_full _ rfl _ _ 23 rfl w.heap.size 24 i24 _ 1 Yba.underlying23 hi hz0 hz1 _ _ _ _ (len + 1) rfl rfl (by omega) (by omega) (by rw [hzb]; omega) (by unfold maxLen; omega) (by simp) ?_)
  intro w1 hown1 hgr1
  have hinv := rows_start hgr1 hown1 (kids (par zs) 1) (kids_one _)
  clear hown1 hgr1
  go_wp2_with fail
  go_loopw [5] (fun q wr => ∃ i : Nat, 1 ≤ i ∧ i ≤ len + 1 ∧ q = .int .i64 i ∧ RowsInv w w.heap.size (len + 1) (kids (par zs) i) wr) (fun q _ => len + 1 - (intOf q).toNat)
  case atStart => exact ⟨1, Nat.le_refl _, by omega, rfl, hinv⟩
  case round =>
    obtain ⟨i, hi1, hi2, rfl, hI⟩ := hrel
    clear hinv
    by_cases hlt : i < len + 1
    · obtain rfl := HKA.out (by omega)
      obtain ⟨cs, hB, hcs, hr, hd, hbel⟩ := hI
      have hp : par zs i < len + 1 := by have := Nat.mod_lt (zs.getD (i - 1) 0) (show 0 < i by omega); unfold par; omega
      obtain ⟨ao, cap1, h1, hown⟩ := hr (par zs i) hp
      have c1 := (hbel.cell (p := ⟨b, off + (i - 1), none⟩) (block_lt_of_cell (HZ.out (i - 1) (by omega)))).trans (HZ.out (i - 1) (by omega))
      have c2 : wr.cell? ⟨w.heap.size, par zs i, none⟩ = some (.slice ao (kids (par zs) i (par zs i)).length cap1) := by rw [cell_of_row _ _ _ _ _ _ hB]; exact h1
      have hlen := kids_length (par zs) i (par zs i)
      have hzb2 := HZ2.out (i - 1)
      have hpd : par zs i = zs.getD (i - 1) 0 % i := rfl
      have HB := hide hB
      have HR := hide hr
      have HD := hide hd
      have HO := hide hown
      have H1 := hide h1
      have HP := hide hp
      have hszk := lt_of_block hB
      clear hB hr hd hown h1 hp
      generalize hpp : par zs i = p at *
      have HPP := hide hpp
      clear hpp
      generalize hzz : zs.getD (i - 1) 0 = z at *
      have HZZ := hide hzz
      clear hzz
      generalize hkk : kids (par zs) i p = l at *
      have HKK := hide hkk
      clear hkk
      subst hpd
      have hmod : z % i < i := Nat.mod_lt _ (by omega)
      have hpl : l.length ≤ 1025 := by omega
      go_wp2_with (at_builtin; refine wpList_append_lies _ rfl _ _ _ rfl (w.heap.size + 1) 3 i3 _ 1 8 Yba.underlying24 hj hy0 hy1 hyb rfl (by omega) _ l.length _ rfl (HO.out.alloc _) ⟨wr.heap.size, 0, none⟩ 1 1 [.int .i64 (i : Int)] rfl rfl (cell_one_new _ _ _) (one1 _) (by omega) (by unfold maxLen; omega) (by omega) (by simp; omega) (wr.heap.size + 1) (by simp) ?_)
      intro g cap' w2 hown2 hgr2 hat _
      subst HKK
      obtain ⟨hB2, hinv2⟩ := rows_step (Ls := kids (par zs) i) (Ls' := kids (par zs) (i + 1)) (Nat.le_refl _) HB.out hcs HR.out HD.out hbel HP.out H1.out HO.out (kids_hit _ _ _ hi1 HPP.out) (fun v hv => kids_miss _ _ _ (by rw [HPP.out]; exact fun e => hv e.symm)) hown2 hgr2 hat
      have c3 : w2.cell? ⟨w.heap.size, z % i, none⟩ = some (.slice ao (kids (par zs) i (z % i)).length cap1) := by rw [cell_of_row _ _ _ _ _ _ hB2]; exact H1.out
      have f3 : w2.frozen? ⟨w.heap.size, z % i, none⟩ = false := frozen_of_row _ _ _ _ _ hB2
      clear hown2 hgr2 hat hB2 c1 c2 HO HR HD HB H1
      go_wp2_with fail
      go_roundw
      case rel => exact ⟨i + 1, by omega, by omega, by go_num, hinv2⟩
      case measure => simp [intOf]; omega
    · obtain rfl : i = len + 1 := by omega
      have hbt : BytesAt w ka len := fun i hi => ⟨b, off, _, HKA.out (by omega), HZ.out i hi, by omega, by have := HZ2.out i; omega⟩
      have hpar : ∀ i, 1 ≤ i → i < len + 1 → par zs i < i := fun i h1 _ => by unfold par; exact Nat.mod_lt _ (by omega)
      have hk : ∀ v c, c ∈ kids (par zs) (len + 1) v → v < c ∧ c < len + 1 := fun v c hc => by
        have h := mem_kids.1 hc
        have := hpar c h.2.1 h.1
        omega
      have HI := hide hI
      have hbel : Below w.heap.size w wr := by
        obtain ⟨_, _, _, _, _, h⟩ := hI
        exact h
      have hkids := rows_kids hI
      have HK := hide hkids
      have HBT := hide (hbt.later hbel)
      have HKK := hide hk
      have HPR := hide hpar
      clear hI hkids hk hpar hbt
      go_wp2_with fail
      refine (build_any w.heap.size (len + 1) (len + 1) len cap ka (kids (par zs) (len + 1)) rfl hl HKK.out (fun v => Nat.le_trans (kids_length _ _ _) (by omega)) (len + 2) 0 wr (by omega) (by omega) HK.out HBT.out).mono ?_
      rintro e w2 ⟨s, k, ao, l1, c1, rfl, htree, hb2⟩
      have htot : size (kids (par zs) (len + 1)) (len + 2) 0 = len + 1 := count (par zs) (len + 1) (by omega) HPR.out
      rw [htot] at htree
      clear htot
      go_wp2_with fail
      refine (nodes_any (len + 2) _ (len + 1) _ (TreeAt.later ?_ _ _ _ (TreeFrom.at _ _ _ htree)) (by omega)).mono ?_
      · intro a u h
        exact cell_later ((Below.refl _ _).alloc (Nat.le_refl _) _) h
      rintro e w3 ⟨rfl, hb3⟩
      go_wp2_with fail
      go_ret
      exact ⟨ret_bool (by simp), hbel.trans ((hb2.mono (by have := hbel.size; omega)).trans (((Below.refl _ _).alloc (by have := hbel.size; have := hb2.size; omega) _).trans (hb3.mono (by have := hbel.size; have := hb2.size; simp; omega))))⟩

set_option maxRecDepth 100000 in
set_option maxHeartbeats 400000 in
theorem walk_big (len cap : Nat) (ka : Option Addr) (w : World) (hl : 1024 < len) :
    Calls Yba.prog 3 #[.slice ka len cap] w fun e w' => e = .returned (.bool true) ∧ Below w.heap.size w w' := by
  go_enter Yba.func3, Yba.ntmps3
  go_wp2_with fail
  go_ret
  exact ⟨rfl, Below.refl _ _⟩

end Go.Proofs.Ybulkmvg.Count
