/-
  THE WALK of seat b6615561a: FnLinksRemoveOrderFree, the ways on which it returns at once.
-/
import Derived.Test.Qxb6615561aOrder
namespace Go.Proofs.Qxb6615561a
open Go.RowKit

set_option maxHeartbeats 1000000 in
set_option maxRecDepth 100000 in
theorem order_size (a0 : Option Addr) (n0 cap0 : Nat) (a1 : Option Addr) (n1 cap1 : Nat) (i j : Int) (w : World) (h0 : n0 ≤ maxLen) (h1 : n1 ≤ maxLen) (h : n0 = 0 ∨ 65536 < n0 ∨ n1 ≠ n0) :
    Calls Try.prog 4 #[.slice a0 n0 cap0, .slice a1 n1 cap1, .int .i64 i, .int .i64 j] w fun e w' => e = .returned (.bool true) ∧ Below w.heap.size w w' := by
  have hc := bytes14_any a0 a1 n0 cap0 n1 cap1 i j w h0 h1
  have HC : Hid _ := hc
  clear hc
  unfold maxLen at h0 h1
  by_cases c1 : 65536 < n0
  · go_enter Try.func4, Try.ntmps4
    go_wp2_with fail
    refine Calls.mono HC.out ?_
    rintro e w' ⟨⟨r, rfl⟩, hw⟩
    have hw := hw.symm
    subst hw
    cases r
    all_goals
      go_wp2
      go_ret
      exact ⟨rfl, Below.refl _ _⟩
  by_cases c2 : 65536 < n1
  · go_enter Try.func4, Try.ntmps4
    go_wp2_with fail
    refine Calls.mono HC.out ?_
    rintro e w' ⟨⟨r, rfl⟩, hw⟩
    have hw := hw.symm
    subst hw
    cases r
    all_goals
      go_wp2
      go_ret
      exact ⟨rfl, Below.refl _ _⟩
  by_cases c3 : n0 = 0
  · have hb0 : ((n0 : Int) == 0) = true := beq_iff_eq.2 (by omega)
    have c3' : n0 ≤ 0 := by omega
    clear c3 h
    go_enter Try.func4, Try.ntmps4
    go_wp2_with fail
    refine Calls.mono HC.out ?_
    rintro e w' ⟨⟨r, rfl⟩, hw⟩
    have hw := hw.symm
    subst hw
    cases r
    all_goals
      go_wp2
      go_ret
      exact ⟨rfl, Below.refl _ _⟩
  have hb0 : ((n0 : Int) == 0) = false := beq_eq_false_iff_ne.2 (by omega)
  have hb1 : ((n1 : Int) != (n0 : Int)) = true := by rw [bne_iff_ne]; omega
  clear c3 h
  go_enter Try.func4, Try.ntmps4
  go_wp2_with fail
  refine Calls.mono HC.out ?_
  rintro e w' ⟨⟨r, rfl⟩, hw⟩
  have hw := hw.symm
  subst hw
  cases r
  all_goals
    go_wp2
    go_ret
    exact ⟨rfl, Below.refl _ _⟩

set_option maxHeartbeats 1000000 in
set_option maxRecDepth 100000 in
theorem order_bad (a0 : Option Addr) (cap0 : Nat) (a1 : Option Addr) (cap1 m : Nat) (nx pv : List Int) (i j : Int) (w : World) (hm : m ≤ 65536) (h1 : 1 ≤ m)
    (hn : Rd w (.slice a0 m cap0) nx) (hp : Rd w (.slice a1 m cap1) pv) (ln : nx.length = m) (lp : pv.length = m) (hbad : Ring.lw nx pv ((m : Int) - 1) m ((m : Int) - 1) [] = none) :
    Calls Try.prog 4 #[.slice a0 m cap0, .slice a1 m cap1, .int .i64 i, .int .i64 j] w fun e w' => e = .returned (.bool true) ∧ Below w.heap.size w w' := by
  have HC : Hid _ := walk_any hn hp ln lp h1 hbad
  clear hn hp ln lp hbad
  have hd1 : decide ((65536 : Int) < (m : Int)) = false := decide_eq_false (by omega)
  have hd2 : decide ((1048576 : Int) < ((m : Int) + (m : Int)) * 8) = false := decide_eq_false (by omega)
  have hd3 : ((m : Int) == 0) = false := beq_eq_false_iff_ne.2 (by omega)
  go_enter Try.func4, Try.ntmps4
  go_wp2_with fail
  refine (bytes14 _ _ _ _ _ _ _ _ _ hm hm).mono ?_
  rintro e w' ⟨rfl, hw⟩
  have hw := hw.symm
  subst hw
  go_wp2_with fail
  refine Calls.mono HC.out ?_
  rintro e w1 ⟨v, rfl, -, -, -, hb1⟩
  simp only [Option.isSome_none]
  go_wp2
  go_ret
  exact ⟨rfl, hb1⟩

set_option maxHeartbeats 1000000 in
set_option maxRecDepth 100000 in
theorem order_no (a0 : Option Addr) (cap0 : Nat) (a1 : Option Addr) (cap1 m : Nat) (nx pv wk : List Int) (i j : Int) (w : World) (hm : m ≤ 65536) (h1 : 1 ≤ m)
    (hn : Rd w (.slice a0 m cap0) nx) (hp : Rd w (.slice a1 m cap1) pv) (hg : Ring.Good m nx pv wk) (hno : i = j ∨ i ∉ wk ∨ j ∉ wk) :
    Calls Try.prog 4 #[.slice a0 m cap0, .slice a1 m cap1, .int .i64 i, .int .i64 j] w fun e w' => e = .returned (.bool true) ∧ Below w.heap.size w w' := by
  have HC : Hid _ := walk_any hn hp hg.ln hg.lp h1 (Ring.of_good hg)
  have hlk := hg.short
  clear hn hp hg
  have hd1 : decide ((65536 : Int) < (m : Int)) = false := decide_eq_false (by omega)
  have hd2 : decide ((1048576 : Int) < ((m : Int) + (m : Int)) * 8) = false := decide_eq_false (by omega)
  have hd3 : ((m : Int) == 0) = false := beq_eq_false_iff_ne.2 (by omega)
  by_cases c1 : i = j
  · have hij : (i == j) = true := beq_iff_eq.2 c1
    clear c1 hno
    go_enter Try.func4, Try.ntmps4
    go_wp2_with fail
    refine (bytes14 _ _ _ _ _ _ _ _ _ hm hm).mono ?_
    rintro e w' ⟨rfl, hw⟩
    have hw := hw.symm
    subst hw
    go_wp2_with fail
    refine Calls.mono HC.out ?_
    rintro e w1 ⟨v, rfl, -, -, -, hb1⟩
    simp only [Option.isSome_some]
    go_wp2
    go_ret
    exact ⟨rfl, hb1⟩
  have hij : (i == j) = false := beq_eq_false_iff_ne.2 c1
  by_cases c2 : i ∈ wk
  · have c3 : j ∉ wk := by
      rcases hno with h | h | h
      · exact absurd h c1
      · exact absurd c2 h
      · exact h
    clear c1 hno
    go_enter Try.func4, Try.ntmps4
    go_wp2_with fail
    refine (bytes14 _ _ _ _ _ _ _ _ _ hm hm).mono ?_
    rintro e w' ⟨rfl, hw⟩
    have hw := hw.symm
    subst hw
    go_wp2_with fail
    refine Calls.mono HC.out ?_
    rintro e w1 ⟨v, rfl, ho, -, hl, hb1⟩
    simp only [Option.isSome_some, Option.getD_some] at ho hl ⊢
    have hv : Rd w1 v wk := ho.rd (by omega)
    clear ho
    have C2 : Hid _ := decide_eq_true c2
    have C3 : Hid _ := decide_eq_false c3
    clear c2 c3
    go_wp2_with fail
    refine (contains_at i true hv C2.out).mono ?_
    rintro e w' ⟨rfl, hw⟩
    subst hw
    go_wp2_with fail
    refine (contains_at j false hv C3.out).mono ?_
    rintro e w' ⟨rfl, hw⟩
    subst hw
    go_wp2
    go_ret
    exact ⟨rfl, hb1⟩
  · clear c1 hno
    go_enter Try.func4, Try.ntmps4
    go_wp2_with fail
    refine (bytes14 _ _ _ _ _ _ _ _ _ hm hm).mono ?_
    rintro e w' ⟨rfl, hw⟩
    have hw := hw.symm
    subst hw
    go_wp2_with fail
    refine Calls.mono HC.out ?_
    rintro e w1 ⟨v, rfl, ho, -, hl, hb1⟩
    simp only [Option.isSome_some, Option.getD_some] at ho hl ⊢
    have hv : Rd w1 v wk := ho.rd (by omega)
    clear ho
    have C2 : Hid _ := decide_eq_false c2
    clear c2
    go_wp2_with fail
    refine (contains_at i false hv C2.out).mono ?_
    rintro e w' ⟨rfl, hw⟩
    subst hw
    go_wp2
    go_ret
    exact ⟨rfl, hb1⟩

/-- The whole of FnLinksRemoveOrderFree over slices that can be read -/
theorem order_all (a0 : Option Addr) (n0 cap0 : Nat) (a1 : Option Addr) (n1 cap1 : Nat) (nx pv : List Int) (i j : Int) (w : World) (h0 : n0 ≤ maxLen) (h1 : n1 ≤ maxLen)
    (hn : n0 ≤ 1048576 → Rd w (.slice a0 n0 cap0) nx) (hp : n1 ≤ 1048576 → Rd w (.slice a1 n1 cap1) pv) (ln : nx.length = n0) (lp : pv.length = n1) :
    Calls Try.prog 4 #[.slice a0 n0 cap0, .slice a1 n1 cap1, .int .i64 i, .int .i64 j] w fun e w' => e = .returned (.bool true) ∧ Below w.heap.size w w' := by
  by_cases h : n0 = 0 ∨ 65536 < n0 ∨ n1 ≠ n0
  · exact order_size a0 n0 cap0 a1 n1 cap1 i j w h0 h1 h
  · obtain ⟨g1, g2, rfl⟩ : 1 ≤ n0 ∧ n0 ≤ 65536 ∧ n1 = n0 := ⟨by omega, by omega, by omega⟩
    have hn := hn (by omega)
    have hp := hp (by omega)
    match hR : Ring.lw nx pv ((n1 : Int) - 1) n1 ((n1 : Int) - 1) [] with
    | none => exact order_bad a0 cap0 a1 cap1 n1 nx pv i j w g2 g1 hn hp ln lp hR
    | some wk =>
      have hg := Ring.good_of ln lp hR
      by_cases hno : i = j ∨ i ∉ wk ∨ j ∉ wk
      · exact order_no a0 cap0 a1 cap1 n1 nx pv wk i j w g2 g1 hn hp hg hno
      · have hij : i ≠ j := fun e => hno (.inl e)
        have hi : i ∈ wk := Classical.not_not.1 fun e => hno (.inr (.inl e))
        have hj : j ∈ wk := Classical.not_not.1 fun e => hno (.inr (.inr e))
        obtain ⟨na, pa, nb, pb, nc, pc, nd, pd, out, T⟩ := two hg hi hj hij
        exact order_hard a0 cap0 a1 cap1 n1 nx pv i j w g2 g1 hn hp ln lp (beq_eq_false_iff_ne.2 hij) wk na pa nb pb nc pc nd pd out T

end Go.Proofs.Qxb6615561a
