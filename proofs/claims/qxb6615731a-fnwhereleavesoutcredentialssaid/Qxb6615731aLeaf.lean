/-
  THE WALKS of seat b6615731a: the leaves.
-/
import Derived.Test.Qxb6615731aRows
import Derived.WalkKit
import Derived.WalkSpells
import Derived.WalkLawsBesides
import Derived.Deep.QuietTactic
import Derived.BigQuiet
import Derived.Lib.Strings
namespace Go.Proofs.Qxb6615731a
open Go.RowKit

/-- It answers with a bool. -/
def Says (e : Ending) : Prop := ∃ r, e = .returned (.bool r)

set_option maxHeartbeats 800000 in
theorem bytes_any (a b c d e f g : ByteArray) (w : World) (h0 : a.size ≤ maxLen) (h1 : b.size ≤ maxLen) (h2 : c.size ≤ maxLen) (h3 : d.size ≤ maxLen) (h4 : e.size ≤ maxLen) (h5 : f.size ≤ maxLen) (h6 : g.size ≤ maxLen) :
    Calls Try.prog 6 #[.string a, .string b, .string c, .string d, .string e, .string f, .string g] w fun x w' => Says x ∧ w = w' := by
  unfold maxLen at h0 h1 h2 h3 h4 h5 h6
  go_enter Try.func6, Try.ntmps6
  go_wp2
  all_goals (go_ret; exact ⟨⟨_, rfl⟩, rfl⟩)

set_option maxHeartbeats 400000 in
theorem bytes_yes (a b c d e f g : ByteArray) (w : World) (h0 : a.size ≤ 131072) (h1 : b.size ≤ 131072) (h2 : c.size ≤ 131072) (h3 : d.size ≤ 131072) (h4 : e.size ≤ 131072) (h5 : f.size ≤ 131072) (h6 : g.size ≤ 131072) :
    Calls Try.prog 6 #[.string a, .string b, .string c, .string d, .string e, .string f, .string g] w fun x w' => x = .returned (.bool true) ∧ w = w' := by
  go_enter Try.func6, Try.ntmps6
  go_wp2
  go_ret
  exact ⟨rfl, rfl⟩

set_option maxHeartbeats 400000 in
theorem user_core (u p : ByteArray) (w : World) :
    Calls Try.prog 13 #[.string u, .string p] w fun e w' => e = .returned (.pointer (some ⟨w.heap.size, 0, none⟩)) ∧ Below w.heap.size w w' := by
  go_enter Try.func13, Try.ntmps13
  go_wp2
  go_ret
  exact ⟨rfl, (Below.refl _ _).alloc (Nat.le_refl _) _⟩

set_option maxHeartbeats 400000 in
theorem where_core (b : Nat) (h p : ByteArray) (w : World) (hh : h.size ≤ 131072) (hp : p.size ≤ 131072) (c3 : w.cell? ⟨b, 3, none⟩ = some (.string h)) (c4 : w.cell? ⟨b, 4, none⟩ = some (.string p)) :
    Calls Try.prog 12 #[.pointer (some ⟨b, 0, none⟩)] w fun e w' => e = .returned (.string (h ++ p)) ∧ Below w.heap.size w w' := by
  go_enter Try.func12, Try.ntmps12
  go_wp2
  go_quiet (fail)
  go_wp2
  go_ret
  exact ⟨rfl, below_drewN (Below.refl _ _) _⟩

set_option maxHeartbeats 400000 in
theorem full_core (s u q h p r f : ByteArray) (w : World) (hh : h.size ≤ 131072) (hp : p.size ≤ 131072) :
    Calls Try.prog 7 #[.string s, .string u, .string q, .string h, .string p, .string r, .string f] w fun e w' => e = .returned (.string (h ++ p)) ∧ Below w.heap.size w w' := by
  go_enter Try.func7, Try.ntmps7
  go_wp2_with fail
  refine (user_core u q _).mono ?_
  rintro e w1 ⟨rfl, hb1⟩
  go_wp2_with fail
  refine (where_core _ h p _ hh hp (by simp [go_sem]) (by simp [go_sem])).mono ?_
  rintro e w2 ⟨rfl, hb2⟩
  have s1 := hb1.size
  have hfin : Below w.heap.size w w2 := (hb1.alloc s1 _).trans (hb2.mono (by simp; omega))
  clear hb2
  go_wp2
  go_ret
  exact ⟨rfl, hfin⟩

set_option maxHeartbeats 400000 in
theorem bare_core (h p : ByteArray) (w : World) (hh : h.size ≤ 131072) (hp : p.size ≤ 131072) :
    Calls Try.prog 8 #[.string h, .string p] w fun e w' => e = .returned (.string (h ++ p)) ∧ Below w.heap.size w w' := by
  go_enter Try.func8, Try.ntmps8
  go_wp2_with fail
  refine (where_core _ h p _ hh hp (by simp [go_sem]) (by simp [go_sem])).mono ?_
  rintro e w2 ⟨rfl, hb2⟩
  have hfin : Below w.heap.size w w2 := ((Below.refl _ _).alloc (Nat.le_refl _) _).trans (hb2.mono (by simp))
  clear hb2
  go_wp2
  go_ret
  exact ⟨rfl, hfin⟩

set_option maxHeartbeats 400000 in
theorem prefix_core (s p : ByteArray) (w : World) (hs : s.size ≤ 1048576) (hl : p.size ≤ s.size) (hb : ∀ (k : Nat) (h1 : k < p.size) (h2 : k < s.size), s[k] = p[k]) :
    Calls Try.prog 9 #[.string s, .string p] w fun e w' => e = .returned (.bool true) ∧ Below w.heap.size w w' := by
  have HB : Hid (∀ (k : Nat) (h1 : k < p.size) (h2 : k < s.size), s[k] = p[k]) := hb
  clear hb
  go_enter Try.func9, Try.ntmps9
  go_wp2_with fail
  go_loopw [5] (fun i wr => ∃ k : Nat, k ≤ p.size ∧ i = .int .i64 k ∧ Below w.heap.size w wr) (fun i _ => p.size - (intOf i).toNat)
  case atStart => exact ⟨0, Nat.zero_le _, rfl, Below.refl _ _⟩
  case round =>
    obtain ⟨k, hk, rfl, hbel⟩ := hrel
    by_cases hlt : k < p.size
    · have hks : k < s.size := by omega
      have hI0 : (0 : Int) ≤ (k : Int) := by omega
      have hI1 : (k : Int) < (p.size : Int) := by omega
      have hI2 : (k : Int) < (s.size : Int) := by omega
      have hq := HB.out k hlt hks
      have hne : ((s[k].toNat : Int) != (p[k].toNat : Int)) = false := by rw [hq]; simp
      clear hq
      go_wp2
      go_quiet (fail)
      go_wp2
      go_roundw
      case rel => exact ⟨k + 1, by omega, by go_num, below_drewN hbel _⟩
      case measure => simp [intOf]; omega
    · go_wp2
      go_ret
      exact ⟨rfl, hbel⟩

set_option maxHeartbeats 400000 in
theorem suffix_core (s p : ByteArray) (o : Nat) (w : World) (hs : s.size ≤ 1048576) (hl : s.size = o + p.size) (hb : ∀ (k : Nat) (h1 : k < p.size) (h2 : o + k < s.size), s[o + k] = p[k]) :
    Calls Try.prog 10 #[.string s, .string p] w fun e w' => e = .returned (.bool true) ∧ Below w.heap.size w w' := by
  have HB : Hid (∀ (k : Nat) (h1 : k < p.size) (h2 : o + k < s.size), s[o + k] = p[k]) := hb
  have h1 : o + p.size ≤ s.size := by omega
  have h2 : s.size ≤ o + p.size := by omega
  have HL : Hid (s.size = o + p.size) := hl
  have ho : (s.size : Int) - (p.size : Int) = (o : Int) := by omega
  clear hb hl
  go_enter Try.func10, Try.ntmps10
  go_wp2_with fail
  go_loopw [6] (fun i wr => ∃ k : Nat, k ≤ p.size ∧ i = .int .i64 k ∧ Below w.heap.size w wr) (fun i _ => p.size - (intOf i).toNat)
  case atStart => exact ⟨0, Nat.zero_le _, rfl, Below.refl _ _⟩
  case round =>
    obtain ⟨k, hk, rfl, hbel⟩ := hrel
    by_cases hlt : k < p.size
    · have hks : o + k < s.size := by omega
      have hI0 : (0 : Int) ≤ (k : Int) := by omega
      have hI1 : (k : Int) < (p.size : Int) := by omega
      have hI2 : (o : Int) + (k : Int) < (s.size : Int) := by omega
      have hI3 : (0 : Int) ≤ (o : Int) + (k : Int) := by omega
      have hwr : IntKind.i64.wrap ((o : Int) + (k : Int)) = (o : Int) + (k : Int) := IntWalk.i64_in _ (by omega)
      have hq := HB.out k hlt hks
      have hne : ((s[o + k].toNat : Int) != (p[k].toNat : Int)) = false := by rw [hq]; simp
      clear hq
      go_wp2
      go_quiet (fail)
      go_wp2
      go_roundw
      case rel => exact ⟨k + 1, by omega, by go_num, below_drewN hbel _⟩
      case measure => simp [intOf]; omega
    · go_wp2
      go_ret
      exact ⟨rfl, hbel⟩

end Go.Proofs.Qxb6615731a
