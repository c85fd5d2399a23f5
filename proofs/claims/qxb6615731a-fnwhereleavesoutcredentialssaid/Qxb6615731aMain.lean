/-
  THE WALK of seat b6615731a: FnWhereLeavesOutCredentials.
-/
import Derived.Test.Qxb6615731aLeaf
namespace Go.Proofs.Qxb6615731a
open Go.RowKit

set_option maxHeartbeats 1000000 in
theorem long0 (a0 a1 a2 a3 a4 a5 a6 : ByteArray) (w : World) (h0 : a0.size ≤ maxLen) (h1 : a1.size ≤ maxLen) (h2 : a2.size ≤ maxLen) (h3 : a3.size ≤ maxLen) (h4 : a4.size ≤ maxLen) (h5 : a5.size ≤ maxLen) (h6 : a6.size ≤ maxLen)  (c0 : 131072 < a0.size) :
    Calls Try.prog 4 #[.string a0, .string a1, .string a2, .string a3, .string a4, .string a5, .string a6] w fun e w' => e = .returned (.bool true) ∧ Below w.heap.size w w' := by
  have HC : Hid _ := bytes_any a0 a1 a2 a3 a4 a5 a6 w h0 h1 h2 h3 h4 h5 h6
  unfold maxLen at h0 h1 h2 h3 h4 h5 h6
  go_enter Try.func4, Try.ntmps4
  go_wp2_with fail
  refine Calls.mono HC.out ?_
  rintro e w' ⟨⟨r, rfl⟩, hw⟩
  subst hw
  cases r
  all_goals (go_wp2; go_ret; exact ⟨rfl, Below.refl _ _⟩)

set_option maxHeartbeats 1000000 in
theorem long1 (a0 a1 a2 a3 a4 a5 a6 : ByteArray) (w : World) (h0 : a0.size ≤ maxLen) (h1 : a1.size ≤ maxLen) (h2 : a2.size ≤ maxLen) (h3 : a3.size ≤ maxLen) (h4 : a4.size ≤ maxLen) (h5 : a5.size ≤ maxLen) (h6 : a6.size ≤ maxLen) (c0 : ¬ 131072 < a0.size) (c1 : 131072 < a1.size) :
    Calls Try.prog 4 #[.string a0, .string a1, .string a2, .string a3, .string a4, .string a5, .string a6] w fun e w' => e = .returned (.bool true) ∧ Below w.heap.size w w' := by
  have HC : Hid _ := bytes_any a0 a1 a2 a3 a4 a5 a6 w h0 h1 h2 h3 h4 h5 h6
  unfold maxLen at h0 h1 h2 h3 h4 h5 h6
  go_enter Try.func4, Try.ntmps4
  go_wp2_with fail
  refine Calls.mono HC.out ?_
  rintro e w' ⟨⟨r, rfl⟩, hw⟩
  subst hw
  cases r
  all_goals (go_wp2; go_ret; exact ⟨rfl, Below.refl _ _⟩)

set_option maxHeartbeats 1000000 in
theorem long2 (a0 a1 a2 a3 a4 a5 a6 : ByteArray) (w : World) (h0 : a0.size ≤ maxLen) (h1 : a1.size ≤ maxLen) (h2 : a2.size ≤ maxLen) (h3 : a3.size ≤ maxLen) (h4 : a4.size ≤ maxLen) (h5 : a5.size ≤ maxLen) (h6 : a6.size ≤ maxLen) (c0 : ¬ 131072 < a0.size) (c1 : ¬ 131072 < a1.size) (c2 : 131072 < a2.size) :
    Calls Try.prog 4 #[.string a0, .string a1, .string a2, .string a3, .string a4, .string a5, .string a6] w fun e w' => e = .returned (.bool true) ∧ Below w.heap.size w w' := by
  have HC : Hid _ := bytes_any a0 a1 a2 a3 a4 a5 a6 w h0 h1 h2 h3 h4 h5 h6
  unfold maxLen at h0 h1 h2 h3 h4 h5 h6
  go_enter Try.func4, Try.ntmps4
  go_wp2_with fail
  refine Calls.mono HC.out ?_
  rintro e w' ⟨⟨r, rfl⟩, hw⟩
  subst hw
  cases r
  all_goals (go_wp2; go_ret; exact ⟨rfl, Below.refl _ _⟩)

set_option maxHeartbeats 1000000 in
theorem long3 (a0 a1 a2 a3 a4 a5 a6 : ByteArray) (w : World) (h0 : a0.size ≤ maxLen) (h1 : a1.size ≤ maxLen) (h2 : a2.size ≤ maxLen) (h3 : a3.size ≤ maxLen) (h4 : a4.size ≤ maxLen) (h5 : a5.size ≤ maxLen) (h6 : a6.size ≤ maxLen) (c0 : ¬ 131072 < a0.size) (c1 : ¬ 131072 < a1.size) (c2 : ¬ 131072 < a2.size) (c3 : 131072 < a3.size) :
    Calls Try.prog 4 #[.string a0, .string a1, .string a2, .string a3, .string a4, .string a5, .string a6] w fun e w' => e = .returned (.bool true) ∧ Below w.heap.size w w' := by
  have HC : Hid _ := bytes_any a0 a1 a2 a3 a4 a5 a6 w h0 h1 h2 h3 h4 h5 h6
  unfold maxLen at h0 h1 h2 h3 h4 h5 h6
  go_enter Try.func4, Try.ntmps4
  go_wp2_with fail
  refine Calls.mono HC.out ?_
  rintro e w' ⟨⟨r, rfl⟩, hw⟩
  subst hw
  cases r
  all_goals (go_wp2; go_ret; exact ⟨rfl, Below.refl _ _⟩)

set_option maxHeartbeats 1000000 in
theorem long4 (a0 a1 a2 a3 a4 a5 a6 : ByteArray) (w : World) (h0 : a0.size ≤ maxLen) (h1 : a1.size ≤ maxLen) (h2 : a2.size ≤ maxLen) (h3 : a3.size ≤ maxLen) (h4 : a4.size ≤ maxLen) (h5 : a5.size ≤ maxLen) (h6 : a6.size ≤ maxLen) (c0 : ¬ 131072 < a0.size) (c1 : ¬ 131072 < a1.size) (c2 : ¬ 131072 < a2.size) (c3 : ¬ 131072 < a3.size) (c4 : 131072 < a4.size) :
    Calls Try.prog 4 #[.string a0, .string a1, .string a2, .string a3, .string a4, .string a5, .string a6] w fun e w' => e = .returned (.bool true) ∧ Below w.heap.size w w' := by
  have HC : Hid _ := bytes_any a0 a1 a2 a3 a4 a5 a6 w h0 h1 h2 h3 h4 h5 h6
  unfold maxLen at h0 h1 h2 h3 h4 h5 h6
  go_enter Try.func4, Try.ntmps4
  go_wp2_with fail
  refine Calls.mono HC.out ?_
  rintro e w' ⟨⟨r, rfl⟩, hw⟩
  subst hw
  cases r
  all_goals (go_wp2; go_ret; exact ⟨rfl, Below.refl _ _⟩)

set_option maxHeartbeats 1000000 in
theorem long5 (a0 a1 a2 a3 a4 a5 a6 : ByteArray) (w : World) (h0 : a0.size ≤ maxLen) (h1 : a1.size ≤ maxLen) (h2 : a2.size ≤ maxLen) (h3 : a3.size ≤ maxLen) (h4 : a4.size ≤ maxLen) (h5 : a5.size ≤ maxLen) (h6 : a6.size ≤ maxLen) (c0 : ¬ 131072 < a0.size) (c1 : ¬ 131072 < a1.size) (c2 : ¬ 131072 < a2.size) (c3 : ¬ 131072 < a3.size) (c4 : ¬ 131072 < a4.size) (c5 : 131072 < a5.size) :
    Calls Try.prog 4 #[.string a0, .string a1, .string a2, .string a3, .string a4, .string a5, .string a6] w fun e w' => e = .returned (.bool true) ∧ Below w.heap.size w w' := by
  have HC : Hid _ := bytes_any a0 a1 a2 a3 a4 a5 a6 w h0 h1 h2 h3 h4 h5 h6
  unfold maxLen at h0 h1 h2 h3 h4 h5 h6
  go_enter Try.func4, Try.ntmps4
  go_wp2_with fail
  refine Calls.mono HC.out ?_
  rintro e w' ⟨⟨r, rfl⟩, hw⟩
  subst hw
  cases r
  all_goals (go_wp2; go_ret; exact ⟨rfl, Below.refl _ _⟩)

set_option maxHeartbeats 1000000 in
theorem long6 (a0 a1 a2 a3 a4 a5 a6 : ByteArray) (w : World) (h0 : a0.size ≤ maxLen) (h1 : a1.size ≤ maxLen) (h2 : a2.size ≤ maxLen) (h3 : a3.size ≤ maxLen) (h4 : a4.size ≤ maxLen) (h5 : a5.size ≤ maxLen) (h6 : a6.size ≤ maxLen) (c0 : ¬ 131072 < a0.size) (c1 : ¬ 131072 < a1.size) (c2 : ¬ 131072 < a2.size) (c3 : ¬ 131072 < a3.size) (c4 : ¬ 131072 < a4.size) (c5 : ¬ 131072 < a5.size) (c6 : 131072 < a6.size) :
    Calls Try.prog 4 #[.string a0, .string a1, .string a2, .string a3, .string a4, .string a5, .string a6] w fun e w' => e = .returned (.bool true) ∧ Below w.heap.size w w' := by
  have HC : Hid _ := bytes_any a0 a1 a2 a3 a4 a5 a6 w h0 h1 h2 h3 h4 h5 h6
  unfold maxLen at h0 h1 h2 h3 h4 h5 h6
  go_enter Try.func4, Try.ntmps4
  go_wp2_with fail
  refine Calls.mono HC.out ?_
  rintro e w' ⟨⟨r, rfl⟩, hw⟩
  subst hw
  cases r
  all_goals (go_wp2; go_ret; exact ⟨rfl, Below.refl _ _⟩)

theorem byte_front (h p : ByteArray) (k : Nat) (h1 : k < h.size) (h2 : k < (h ++ p).size) : (h ++ p)[k] = h[k] := by
  have e : (h ++ p).data.toList[k]? = h.data.toList[k]? := by
    rw [ByteArray.data_append, Array.toList_append, List.getElem?_append_left (by rw [Array.length_toList]; exact h1)]
  have g1 : (h ++ p).data.toList[k]? = some (h ++ p)[k] := by rw [List.getElem?_eq_getElem (by rw [Array.length_toList]; exact h2)]; rfl
  have g2 : h.data.toList[k]? = some h[k] := by rw [List.getElem?_eq_getElem (by rw [Array.length_toList]; exact h1)]; rfl
  rw [g1, g2] at e
  exact Option.some.inj e

theorem byte_back (h p : ByteArray) (k : Nat) (h1 : k < p.size) (h2 : h.size + k < (h ++ p).size) : (h ++ p)[h.size + k] = p[k] := by
  have e : (h ++ p).data.toList[h.size + k]? = p.data.toList[k]? := by
    rw [ByteArray.data_append, Array.toList_append, List.getElem?_append_right (by rw [Array.length_toList]; exact Nat.le_add_right _ _)]
    rw [Array.length_toList]
    show p.data.toList[h.size + k - h.size]? = _
    rw [Nat.add_sub_cancel_left]
  have g1 : (h ++ p).data.toList[h.size + k]? = some (h ++ p)[h.size + k] := by rw [List.getElem?_eq_getElem (by rw [Array.length_toList]; exact h2)]; rfl
  have g2 : p.data.toList[k]? = some p[k] := by rw [List.getElem?_eq_getElem (by rw [Array.length_toList]; exact h1)]; rfl
  rw [g1, g2] at e
  exact Option.some.inj e

theorem full_at (s u q h p r f x : ByteArray) (w : World) (hh : h.size ≤ 131072) (hp : p.size ≤ 131072) (hx : h ++ p = x) :
    Calls Try.prog 7 #[.string s, .string u, .string q, .string h, .string p, .string r, .string f] w fun e w' => e = .returned (.string x) ∧ Below w.heap.size w w' := by
  subst hx; exact full_core s u q h p r f w hh hp
theorem bare_at (h p x : ByteArray) (w : World) (hh : h.size ≤ 131072) (hp : p.size ≤ 131072) (hx : h ++ p = x) :
    Calls Try.prog 8 #[.string h, .string p] w fun e w' => e = .returned (.string x) ∧ Below w.heap.size w w' := by
  subst hx; exact bare_core h p w hh hp

set_option maxHeartbeats 1000000 in
theorem main_core (a0 a1 a2 a3 a4 a5 a6 : ByteArray) (w : World) (h0 : a0.size ≤ 131072) (h1 : a1.size ≤ 131072) (h2 : a2.size ≤ 131072) (h3 : a3.size ≤ 131072) (h4 : a4.size ≤ 131072) (h5 : a5.size ≤ 131072) (h6 : a6.size ≤ 131072) :
    Calls Try.prog 4 #[.string a0, .string a1, .string a2, .string a3, .string a4, .string a5, .string a6] w fun e w' => e = .returned (.bool true) ∧ Below w.heap.size w w' := by
  obtain ⟨x, hx⟩ : ∃ x, a3 ++ a4 = x := ⟨_, rfl⟩
  have hsz : x.size = a3.size + a4.size := by rw [← hx]; simp
  have HX : Hid (a3 ++ a4 = x) := hx
  have HP : Hid (∀ w, Calls Try.prog 9 #[.string x, .string a3] w fun e w' => e = .returned (.bool true) ∧ Below w.heap.size w w') := fun w => by
    subst hx; exact prefix_core _ _ w (by omega) (by omega) (fun k h1 h2 => byte_front a3 a4 k h1 h2)
  have HS : Hid (∀ w, Calls Try.prog 10 #[.string x, .string a4] w fun e w' => e = .returned (.bool true) ∧ Below w.heap.size w w') := fun w => by
    subst hx; exact suffix_core _ _ a3.size w (by omega) hsz (fun k h1 h2 => byte_back a3 a4 k h1 h2)
  have hz1 : ((x.size : Int) == (a3.size : Int) + (a4.size : Int)) = true := beq_iff_eq.2 (by omega)
  clear hx hsz
  go_enter Try.func4, Try.ntmps4
  go_wp2_with fail
  refine (bytes_yes a0 a1 a2 a3 a4 a5 a6 w h0 h1 h2 h3 h4 h5 h6).mono ?_
  rintro e w' ⟨rfl, hw⟩; subst hw
  go_wp2_with fail
  refine (full_at a0 a1 a2 a3 a4 a5 a6 x _ h3 h4 HX.out).mono ?_
  rintro e w1 ⟨rfl, hb1⟩
  go_wp2_with fail
  refine (bare_at a3 a4 x _ h3 h4 HX.out).mono ?_
  rintro e w2 ⟨rfl, hb2⟩
  have H2 : Below w.heap.size w w2 := hb1.trans (hb2.mono hb1.size)
  clear hb1 hb2
  go_wp2_with fail
  refine Calls.mono (HP.out _) ?_
  rintro e w3 ⟨rfl, hb3⟩
  have H3 : Below w.heap.size w w3 := H2.trans (hb3.mono H2.size)
  clear hb3 H2
  go_wp2_with fail
  refine Calls.mono (HS.out _) ?_
  rintro e w4 ⟨rfl, hb4⟩
  have H4 : Below w.heap.size w w4 := H3.trans (hb4.mono H3.size)
  clear hb4 H3
  go_wp2
  go_ret
  exact ⟨rfl, H4⟩

/-- The whole. -/
theorem main_all (a0 a1 a2 a3 a4 a5 a6 : ByteArray) (w : World) (h0 : a0.size ≤ maxLen) (h1 : a1.size ≤ maxLen) (h2 : a2.size ≤ maxLen) (h3 : a3.size ≤ maxLen) (h4 : a4.size ≤ maxLen) (h5 : a5.size ≤ maxLen) (h6 : a6.size ≤ maxLen) :
    Calls Try.prog 4 #[.string a0, .string a1, .string a2, .string a3, .string a4, .string a5, .string a6] w fun e w' => e = .returned (.bool true) ∧ Below w.heap.size w w' := by
  by_cases c0 : 131072 < a0.size
  · exact long0 a0 a1 a2 a3 a4 a5 a6 w h0 h1 h2 h3 h4 h5 h6 c0
  by_cases c1 : 131072 < a1.size
  · exact long1 a0 a1 a2 a3 a4 a5 a6 w h0 h1 h2 h3 h4 h5 h6 c0 c1
  by_cases c2 : 131072 < a2.size
  · exact long2 a0 a1 a2 a3 a4 a5 a6 w h0 h1 h2 h3 h4 h5 h6 c0 c1 c2
  by_cases c3 : 131072 < a3.size
  · exact long3 a0 a1 a2 a3 a4 a5 a6 w h0 h1 h2 h3 h4 h5 h6 c0 c1 c2 c3
  by_cases c4 : 131072 < a4.size
  · exact long4 a0 a1 a2 a3 a4 a5 a6 w h0 h1 h2 h3 h4 h5 h6 c0 c1 c2 c3 c4
  by_cases c5 : 131072 < a5.size
  · exact long5 a0 a1 a2 a3 a4 a5 a6 w h0 h1 h2 h3 h4 h5 h6 c0 c1 c2 c3 c4 c5
  by_cases c6 : 131072 < a6.size
  · exact long6 a0 a1 a2 a3 a4 a5 a6 w h0 h1 h2 h3 h4 h5 h6 c0 c1 c2 c3 c4 c5 c6
  exact main_core a0 a1 a2 a3 a4 a5 a6 w (by omega) (by omega) (by omega) (by omega) (by omega) (by omega) (by omega)

end Go.Proofs.Qxb6615731a
