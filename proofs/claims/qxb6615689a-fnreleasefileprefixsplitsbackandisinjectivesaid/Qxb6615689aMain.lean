/-
  THE WALK of seat b6615689a: FnReleaseFilePrefixSplitsBackAndIsInjective.
-/
import Derived.Test.Qxb6615689aLeaf
namespace Go.Proofs.Qxb6615689a
open Go.RowKit

set_option maxHeartbeats 1000000 in
theorem main_long (a0 a1 a2 a3 : ByteArray) (w : World) (h0 : a0.size ≤ maxLen) (h1 : a1.size ≤ maxLen) (h2 : a2.size ≤ maxLen) (h3 : a3.size ≤ maxLen) (h : 65536 < a0.size ∨ 65536 < a1.size ∨ 65536 < a2.size ∨ 65536 < a3.size) :
    Calls Try.prog 3 #[.string a0, .string a1, .string a2, .string a3] w fun e w' => e = .returned (.bool true) ∧ Below w.heap.size w w' := by
  have HC : Hid _ := bytes_any a0 a1 a2 a3 w h0 h1 h2 h3
  unfold maxLen at h0 h1 h2 h3
  by_cases c0 : 65536 < a0.size
  · clear h
    go_enter Try.func3, Try.ntmps3
    go_wp2_with fail
    refine Calls.mono HC.out ?_
    rintro e w' ⟨⟨r, rfl⟩, hw⟩
    subst hw
    cases r
    all_goals (go_wp2; go_ret; exact ⟨rfl, Below.refl _ _⟩)
  by_cases c1 : 65536 < a1.size
  · clear h
    go_enter Try.func3, Try.ntmps3
    go_wp2_with fail
    refine Calls.mono HC.out ?_
    rintro e w' ⟨⟨r, rfl⟩, hw⟩
    subst hw
    cases r
    all_goals (go_wp2; go_ret; exact ⟨rfl, Below.refl _ _⟩)
  by_cases c2 : 65536 < a2.size
  · clear h
    go_enter Try.func3, Try.ntmps3
    go_wp2_with fail
    refine Calls.mono HC.out ?_
    rintro e w' ⟨⟨r, rfl⟩, hw⟩
    subst hw
    cases r
    all_goals (go_wp2; go_ret; exact ⟨rfl, Below.refl _ _⟩)
  have c3 : 65536 < a3.size := by omega
  clear h
  go_enter Try.func3, Try.ntmps3
  go_wp2_with fail
  refine Calls.mono HC.out ?_
  rintro e w' ⟨⟨r, rfl⟩, hw⟩
  subst hw
  cases r
  all_goals (go_wp2; go_ret; exact ⟨rfl, Below.refl _ _⟩)

theorem under_at (s : ByteArray) (b : Bool) (w : World) (hs : s.size ≤ 65536) (hb : hasU s = b) : Calls Try.prog 7 #[.string s] w fun e w' => e = .returned (.bool b) ∧ w = w' := by
  subst hb; exact under_core s w hs

set_option maxHeartbeats 1000000 in
theorem main_marks (a0 a1 a2 a3 : ByteArray) (w : World) (h0 : a0.size ≤ 65536) (h1 : a1.size ≤ 65536) (h2 : a2.size ≤ 65536) (h3 : a3.size ≤ 65536) (h : hasU a0 = true ∨ hasU a1 = true ∨ hasU a2 = true ∨ hasU a3 = true) :
    Calls Try.prog 3 #[.string a0, .string a1, .string a2, .string a3] w fun e w' => e = .returned (.bool true) ∧ Below w.heap.size w w' := by
  obtain ⟨b0, e0⟩ : ∃ b, hasU a0 = b := ⟨_, rfl⟩
  obtain ⟨b1, e1⟩ : ∃ b, hasU a1 = b := ⟨_, rfl⟩
  obtain ⟨b2, e2⟩ : ∃ b, hasU a2 = b := ⟨_, rfl⟩
  obtain ⟨b3, e3⟩ : ∃ b, hasU a3 = b := ⟨_, rfl⟩
  rw [e0, e1, e2, e3] at h
  have H0 : Hid _ := under_at a0 b0 w h0 e0
  have H1 : Hid _ := under_at a1 b1 w h1 e1
  have H2 : Hid _ := under_at a2 b2 w h2 e2
  have H3 : Hid _ := under_at a3 b3 w h3 e3
  clear e0 e1 e2 e3
  cases b0
  · cases b1
    · cases b2
      · cases b3
        · simp at h
        · clear h
          go_enter Try.func3, Try.ntmps3
          go_wp2_with fail
          refine (bytes_yes a0 a1 a2 a3 w h0 h1 h2 h3).mono ?_
          rintro e w' ⟨rfl, hw⟩; subst hw
          go_wp2_with fail
          refine Calls.mono H0.out ?_
          rintro e w' ⟨rfl, hw⟩; subst hw
          go_wp2_with fail
          refine Calls.mono H1.out ?_
          rintro e w' ⟨rfl, hw⟩; subst hw
          go_wp2_with fail
          refine Calls.mono H2.out ?_
          rintro e w' ⟨rfl, hw⟩; subst hw
          go_wp2_with fail
          refine Calls.mono H3.out ?_
          rintro e w' ⟨rfl, hw⟩; subst hw
          go_wp2
          go_ret
          exact ⟨rfl, Below.refl _ _⟩
      · clear h
        go_enter Try.func3, Try.ntmps3
        go_wp2_with fail
        refine (bytes_yes a0 a1 a2 a3 w h0 h1 h2 h3).mono ?_
        rintro e w' ⟨rfl, hw⟩; subst hw
        go_wp2_with fail
        refine Calls.mono H0.out ?_
        rintro e w' ⟨rfl, hw⟩; subst hw
        go_wp2_with fail
        refine Calls.mono H1.out ?_
        rintro e w' ⟨rfl, hw⟩; subst hw
        go_wp2_with fail
        refine Calls.mono H2.out ?_
        rintro e w' ⟨rfl, hw⟩; subst hw
        go_wp2
        go_ret
        exact ⟨rfl, Below.refl _ _⟩
    · clear h
      go_enter Try.func3, Try.ntmps3
      go_wp2_with fail
      refine (bytes_yes a0 a1 a2 a3 w h0 h1 h2 h3).mono ?_
      rintro e w' ⟨rfl, hw⟩; subst hw
      go_wp2_with fail
      refine Calls.mono H0.out ?_
      rintro e w' ⟨rfl, hw⟩; subst hw
      go_wp2_with fail
      refine Calls.mono H1.out ?_
      rintro e w' ⟨rfl, hw⟩; subst hw
      go_wp2
      go_ret
      exact ⟨rfl, Below.refl _ _⟩
  · clear h
    go_enter Try.func3, Try.ntmps3
    go_wp2_with fail
    refine (bytes_yes a0 a1 a2 a3 w h0 h1 h2 h3).mono ?_
    rintro e w' ⟨rfl, hw⟩; subst hw
    go_wp2_with fail
    refine Calls.mono H0.out ?_
    rintro e w' ⟨rfl, hw⟩; subst hw
    go_wp2
    go_ret
    exact ⟨rfl, Below.refl _ _⟩

/-- The walk where no part holds the mark: the three comparisons are given. -/
theorem prefix_at (s t r : ByteArray) (w : World) (hs : s.size ≤ 65536) (ht : t.size ≤ 65536) (hr : Plain.rel s t = r) : Calls Try.prog 8 #[.string s, .string t] w fun e w' => e = .returned (.string r) ∧ w = w' := by
  subst hr; exact prefix_core s t w hs ht

set_option maxHeartbeats 1000000 in
set_option maxRecDepth 100000 in
theorem main_core (a0 a1 a2 a3 : ByteArray) (w : World) (h0 : a0.size ≤ 65536) (h1 : a1.size ≤ 65536) (h2 : a2.size ≤ 65536) (h3 : a3.size ≤ 65536) (u0 : hasU a0 = false) (u1 : hasU a1 = false) (u2 : hasU a2 = false) (u3 : hasU a3 = false) :
    Calls Try.prog 3 #[.string a0, .string a1, .string a2, .string a3] w fun e w' => e = .returned (.bool true) ∧ Below w.heap.size w w' := by
  have n0 : (95 : UInt8) ∉ a0.data.toList := of_decide_eq_false u0
  have n1 : (95 : UInt8) ∉ a1.data.toList := of_decide_eq_false u1
  have n2 : (95 : UInt8) ∉ a2.data.toList := of_decide_eq_false u2
  obtain ⟨r1, hr1⟩ : ∃ r, Plain.rel a0 a1 = r := ⟨_, rfl⟩
  obtain ⟨r2, hr2⟩ : ∃ r, Plain.rel a2 a3 = r := ⟨_, rfl⟩
  obtain ⟨m, hm⟩ : ∃ m, Plain.mid a0 a1 = m := ⟨_, rfl⟩
  have sr1 : r1.size = 19 + a0.size + 1 + a1.size + 1 := by rw [← hr1]; exact Plain.size_rel _ _
  have smid : m.size = a0.size + 1 + a1.size := by rw [← hm]; exact Plain.size_mid _ _
  have f1 : ((r1.extract 0 Plain.pfx.size).toList == Plain.pfx.toList) = true := by rw [Plain.size_pfx, ← hr1, Plain.rel_front]; simp
  have f2 : ((r1.extract (r1.size - Plain.us.size) r1.size).toList == Plain.us.toList) = true := by rw [Plain.size_us, ← hr1, Plain.rel_back]; simp
  have f3 : r1.extract Plain.pfx.size (r1.size - Plain.us.size) = m := by rw [Plain.size_pfx, Plain.size_us, ← hr1, Plain.rel_mid, hm]
  have HMid : Hid (Calls Try.prog 9 #[.string r1, .string ⟨#[116, 101, 114, 114, 97, 102, 111, 114, 109, 45, 112, 114, 111, 118, 105, 100, 101, 114, 45]⟩, .string ⟨#[95]⟩] w fun e w' => e = .returned (.tuple #[.string m, .bool true]) ∧ w = w') := middle_core r1 Plain.pfx Plain.us m w (by omega) (by rw [Plain.size_us]; omega) (by rw [Plain.size_pfx]; omega) (by rw [Plain.size_us, Plain.size_pfx]; omega) f1 f2 f3
  have HSp : Hid _ := split_core m a0.size w (by omega) (by omega) (fun k hk => Plain.mid_byte hm n0 n1 k hk)
  have g1 : m.extract 0 a0.size = a0 := by rw [← hm]; exact Plain.mid_front _ _
  have g2 : m.extract (a0.size + 1) m.size = a1 := by rw [← hm]; exact Plain.mid_back _ _
  have HG1 : Hid (m.extract 0 a0.size = a0) := g1
  have HG2 : Hid (m.extract (a0.size + 1) m.size = a1) := g2
  have HEq : Hid (decide (r1 = r2) = (decide (a0 = a2) && decide (a1 = a3))) := by
    show _ = _
    rw [Bool.eq_iff_iff]
    simp only [decide_eq_true_eq, Bool.and_eq_true]
    constructor
    · intro h
      rw [← hr1, ← hr2] at h
      exact Plain.rel_inj n0 n2 h
    · rintro ⟨rfl, rfl⟩
      rw [← hr1, ← hr2]
  have HU0 : Hid _ := under_at a0 false w h0 u0
  have HU1 : Hid _ := under_at a1 false w h1 u1
  have HU2 : Hid _ := under_at a2 false w h2 u2
  have HU3 : Hid _ := under_at a3 false w h3 u3
  have HP1 : Hid _ := prefix_at a0 a1 r1 w h0 h1 hr1
  have HP2 : Hid _ := prefix_at a2 a3 r2 w h2 h3 hr2
  have q1 : (r1.toList == r2.toList) = decide (r1 = r2) := Plain.beq_list
  have q2 : (a0.toList == a2.toList) = decide (a0 = a2) := Plain.beq_list
  have q3 : (a1.toList == a3.toList) = decide (a1 = a3) := Plain.beq_list
  rw [HEq.out] at q1
  clear n0 n1 n2 hr1 hr2 hm sr1 smid f1 f2 f3 g1 g2 u0 u1 u2 u3 HEq
  generalize decide (a0 = a2) = b1 at q1 q2
  generalize decide (a1 = a3) = b2 at q1 q3
  go_enter Try.func3, Try.ntmps3
  go_wp2_with fail
  refine (bytes_yes a0 a1 a2 a3 w h0 h1 h2 h3).mono ?_
  rintro e w' ⟨rfl, hw⟩; subst hw
  go_wp2_with fail
  refine Calls.mono HU0.out ?_
  rintro e w' ⟨rfl, hw⟩; subst hw
  go_wp2_with fail
  refine Calls.mono HU1.out ?_
  rintro e w' ⟨rfl, hw⟩; subst hw
  go_wp2_with fail
  refine Calls.mono HU2.out ?_
  rintro e w' ⟨rfl, hw⟩; subst hw
  go_wp2_with fail
  refine Calls.mono HU3.out ?_
  rintro e w' ⟨rfl, hw⟩; subst hw
  go_wp2_with fail
  refine Calls.mono HP1.out ?_
  rintro e w' ⟨rfl, hw⟩; subst hw
  go_wp2_with fail
  refine Calls.mono HP2.out ?_
  rintro e w' ⟨rfl, hw⟩; subst hw
  clear HU0 HU1 HU2 HU3 HP1 HP2
  cases b1
  · simp only [Bool.false_and] at q1
    go_wp2_with fail
    refine Calls.mono HMid.out ?_
    rintro e w' ⟨rfl, hw⟩; subst hw
    go_wp2_with fail
    refine Calls.mono HSp.out ?_
    rintro e w1 ⟨⟨g, cp, rfl, k0, k1⟩, hbel⟩
    rw [HG1.out] at k0
    rw [HG2.out] at k1
    clear HMid HSp HG1 HG2
    go_wp2
    go_ret
    exact ⟨rfl, hbel⟩
  · cases b2
    · simp only [Bool.and_false] at q1
      go_wp2_with fail
      refine Calls.mono HMid.out ?_
      rintro e w' ⟨rfl, hw⟩; subst hw
      go_wp2_with fail
      refine Calls.mono HSp.out ?_
      rintro e w1 ⟨⟨g, cp, rfl, k0, k1⟩, hbel⟩
      rw [HG1.out] at k0
      rw [HG2.out] at k1
      clear HMid HSp HG1 HG2
      go_wp2
      go_ret
      exact ⟨rfl, hbel⟩
    · simp only [Bool.and_true] at q1
      go_wp2_with fail
      refine Calls.mono HMid.out ?_
      rintro e w' ⟨rfl, hw⟩; subst hw
      go_wp2_with fail
      refine Calls.mono HSp.out ?_
      rintro e w1 ⟨⟨g, cp, rfl, k0, k1⟩, hbel⟩
      rw [HG1.out] at k0
      rw [HG2.out] at k1
      clear HMid HSp HG1 HG2
      go_wp2
      go_ret
      exact ⟨rfl, hbel⟩

/-- The whole. -/
theorem main_all (a0 a1 a2 a3 : ByteArray) (w : World) (h0 : a0.size ≤ maxLen) (h1 : a1.size ≤ maxLen) (h2 : a2.size ≤ maxLen) (h3 : a3.size ≤ maxLen) :
    Calls Try.prog 3 #[.string a0, .string a1, .string a2, .string a3] w fun e w' => e = .returned (.bool true) ∧ Below w.heap.size w w' := by
  by_cases h : 65536 < a0.size ∨ 65536 < a1.size ∨ 65536 < a2.size ∨ 65536 < a3.size
  · exact main_long a0 a1 a2 a3 w h0 h1 h2 h3 h
  · by_cases hu : hasU a0 = true ∨ hasU a1 = true ∨ hasU a2 = true ∨ hasU a3 = true
    · exact main_marks a0 a1 a2 a3 w (by omega) (by omega) (by omega) (by omega) hu
    · simp only [not_or, Bool.not_eq_true] at hu
      exact main_core a0 a1 a2 a3 w (by omega) (by omega) (by omega) (by omega) hu.1 hu.2.1 hu.2.2.1 hu.2.2.2

end Go.Proofs.Qxb6615689a
