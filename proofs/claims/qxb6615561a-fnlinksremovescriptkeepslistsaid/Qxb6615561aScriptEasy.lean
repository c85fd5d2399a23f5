/-
  THE WALK of seat b6615561a: FnLinksRemoveScriptKeepsList, the ways on which it returns at once; all ways together.
-/
import Derived.Test.Qxb6615561aScript
namespace Go.Proofs.Qxb6615561a
open Go.RowKit

set_option maxHeartbeats 1000000 in
set_option maxRecDepth 100000 in
theorem script_size (a0 : Option Addr) (n0 cap0 : Nat) (a1 : Option Addr) (n1 cap1 : Nat) (a2 : Option Addr) (n2 cap2 : Nat) (w : World) (h0 : n0 ≤ maxLen) (h1 : n1 ≤ maxLen) (h2 : n2 ≤ maxLen) (h : n0 = 0 ∨ 4096 < n0 ∨ n1 ≠ n0 ∨ 4096 < n2) :
    Calls Try.prog 7 #[.slice a0 n0 cap0, .slice a1 n1 cap1, .slice a2 n2 cap2] w fun e w' => e = .returned (.bool true) ∧ Below w.heap.size w w' := by
  have hc := bytes34_any a0 a1 a2 n0 cap0 n1 cap1 n2 cap2 w h0 h1 h2
  have HC : Hid _ := hc
  clear hc
  unfold maxLen at h0 h1 h2
  by_cases c1 : 4096 < n0
  · clear h
    go_enter Try.func7, Try.ntmps7
    go_wp2_with fail
    refine Calls.mono HC.out ?_
    rintro e w' ⟨⟨r, rfl⟩, hw⟩
    have hw := hw.symm
    subst hw
    cases r
    all_goals
      go_wp2
      go_ret
      exact ⟨rfl, Below.refl _ _⟩
  by_cases c2 : 4096 < n1
  · clear h
    go_enter Try.func7, Try.ntmps7
    go_wp2_with fail
    refine Calls.mono HC.out ?_
    rintro e w' ⟨⟨r, rfl⟩, hw⟩
    have hw := hw.symm
    subst hw
    cases r
    all_goals
      go_wp2
      go_ret
      exact ⟨rfl, Below.refl _ _⟩
  by_cases c4 : 4096 < n2
  · clear h
    go_enter Try.func7, Try.ntmps7
    go_wp2_with fail
    refine Calls.mono HC.out ?_
    rintro e w' ⟨⟨r, rfl⟩, hw⟩
    have hw := hw.symm
    subst hw
    cases r
    all_goals
      go_wp2
      go_ret
      exact ⟨rfl, Below.refl _ _⟩
  by_cases c3 : n0 = 0
  · have hb0 : ((n0 : Int) == 0) = true := beq_iff_eq.2 (by omega)
    have c3' : n0 ≤ 0 := by omega
    clear c3 h
    go_enter Try.func7, Try.ntmps7
    go_wp2_with fail
    refine Calls.mono HC.out ?_
    rintro e w' ⟨⟨r, rfl⟩, hw⟩
    have hw := hw.symm
    subst hw
    cases r
    all_goals
      go_wp2
      go_ret
      exact ⟨rfl, Below.refl _ _⟩
  have hb0 : ((n0 : Int) == 0) = false := beq_eq_false_iff_ne.2 (by omega)
  have hb1 : ((n1 : Int) != (n0 : Int)) = true := by rw [bne_iff_ne]; omega
  clear c3 h
  go_enter Try.func7, Try.ntmps7
  go_wp2_with fail
  refine Calls.mono HC.out ?_
  rintro e w' ⟨⟨r, rfl⟩, hw⟩
  have hw := hw.symm
  subst hw
  cases r
  all_goals
    go_wp2
    go_ret
    exact ⟨rfl, Below.refl _ _⟩

set_option maxHeartbeats 1000000 in
set_option maxRecDepth 100000 in
theorem script_bad (a0 : Option Addr) (cap0 : Nat) (a1 : Option Addr) (cap1 m : Nat) (a2 : Option Addr) (n2 cap2 : Nat) (nx pv : List Int) (w : World) (hm : m ≤ 4096) (h1 : 1 ≤ m) (hn2 : n2 ≤ 4096)
    (hn : Rd w (.slice a0 m cap0) nx) (hp : Rd w (.slice a1 m cap1) pv) (ln : nx.length = m) (lp : pv.length = m) (hbad : Ring.lw nx pv ((m : Int) - 1) m ((m : Int) - 1) [] = none) :
    Calls Try.prog 7 #[.slice a0 m cap0, .slice a1 m cap1, .slice a2 n2 cap2] w fun e w' => e = .returned (.bool true) ∧ Below w.heap.size w w' := by
  have HC : Hid _ := walk_any hn hp ln lp h1 hbad
  clear hn hp ln lp hbad
  have hd1 : decide ((4096 : Int) < (m : Int)) = false := decide_eq_false (by omega)
  have hd2 : decide ((4096 : Int) < (n2 : Int)) = false := decide_eq_false (by omega)
  have hd3 : ((m : Int) == 0) = false := beq_eq_false_iff_ne.2 (by omega)
  go_enter Try.func7, Try.ntmps7
  go_wp2_with fail
  refine (bytes34 _ _ _ _ _ _ _ _ _ _ hm hm hn2).mono ?_
  rintro e w' ⟨rfl, hw⟩
  subst hw
  go_wp2_with fail
  refine Calls.mono HC.out ?_
  rintro e w1 ⟨v, rfl, -, -, -, hb1⟩
  simp only [Option.isSome_none]
  go_wp2
  go_ret
  exact ⟨rfl, hb1⟩

/-- The whole of FnLinksRemoveScriptKeepsList over slices that can be read -/
theorem script_all (a0 : Option Addr) (n0 cap0 : Nat) (a1 : Option Addr) (n1 cap1 : Nat) (a2 : Option Addr) (n2 cap2 : Nat) (nx pv os : List Int) (w : World) (h0 : n0 ≤ maxLen) (h1 : n1 ≤ maxLen) (h2 : n2 ≤ maxLen)
    (hn : n0 ≤ 1048576 → Rd w (.slice a0 n0 cap0) nx) (hp : n1 ≤ 1048576 → Rd w (.slice a1 n1 cap1) pv) (ho : n2 ≤ 1048576 → Rd w (.slice a2 n2 cap2) os) (ln : nx.length = n0) (lp : pv.length = n1) (lo : os.length = n2) :
    Calls Try.prog 7 #[.slice a0 n0 cap0, .slice a1 n1 cap1, .slice a2 n2 cap2] w fun e w' => e = .returned (.bool true) ∧ Below w.heap.size w w' := by
  by_cases h : n0 = 0 ∨ 4096 < n0 ∨ n1 ≠ n0 ∨ 4096 < n2
  · exact script_size a0 n0 cap0 a1 n1 cap1 a2 n2 cap2 w h0 h1 h2 h
  · obtain ⟨g1, g2, g3, rfl⟩ : 1 ≤ n0 ∧ n0 ≤ 4096 ∧ n2 ≤ 4096 ∧ n1 = n0 := ⟨by omega, by omega, by omega, by omega⟩
    have hn := hn (by omega)
    have hp := hp (by omega)
    have ho := ho (by omega)
    match hR : Ring.lw nx pv ((n1 : Int) - 1) n1 ((n1 : Int) - 1) [] with
    | none => exact script_bad a0 cap0 a1 cap1 n1 a2 n2 cap2 nx pv w g2 g1 g3 hn hp ln lp hR
    | some wk =>
      have hg := Ring.good_of ln lp hR
      obtain ⟨a, c, e, _, hh⟩ := ho
      simp only [Value.slice.injEq] at e
      obtain ⟨rfl, _, _⟩ := e
      rcases hh with rfl | ⟨b, off, rfl, hlt, hc⟩
      · simp at lo
        exact script_hard a0 cap0 a1 cap1 n1 a2 0 0 n2 cap2 nx pv [] wk w g2 g1 g3 hn hp hg (by omega) (by omega)
      · exact script_hard a0 cap0 a1 cap1 n1 _ b off n2 cap2 nx pv os wk w g2 g1 g3 hn hp hg (fun _ => ⟨rfl, hlt⟩) (fun k hk => hc k (by omega))

end Go.Proofs.Qxb6615561a
