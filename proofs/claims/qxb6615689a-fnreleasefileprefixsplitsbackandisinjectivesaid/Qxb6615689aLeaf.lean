/-
  THE WALKS of seat b6615689a: the leaves.
-/
import Derived.Test.Qxb6615689aRows
import Derived.Test.Qxb6615689aPlain
import Derived.WalkKit
import Derived.WalkSpells
import Derived.WalkLawsBesides
import Derived.Deep.AppendLies
namespace Go.Proofs.Qxb6615689a
open Go.RowKit

theorem Try.info9 : (Try.prog.info? 9).map (fun i => (i.zero, i.size, i.bytes)) = some (some (.string ByteArray.empty), 1, 16) := by kernel_rfl

theorem ret_bool {a b : Bool} (h : a = b) : Ending.returned (.bool a) = .returned (.bool b) := by rw [h]

/-- It answers with a bool. -/
def Says (e : Ending) : Prop := ∃ r, e = .returned (.bool r)

set_option maxHeartbeats 400000 in
theorem bytes_any (a b c d : ByteArray) (w : World) (h0 : a.size ≤ maxLen) (h1 : b.size ≤ maxLen) (h2 : c.size ≤ maxLen) (h3 : d.size ≤ maxLen) :
    Calls Try.prog 6 #[.string a, .string b, .string c, .string d] w fun e w' => Says e ∧ w = w' := by
  unfold maxLen at h0 h1 h2 h3
  go_enter Try.func6, Try.ntmps6
  go_wp2
  all_goals (go_ret; exact ⟨⟨_, rfl⟩, rfl⟩)

set_option maxHeartbeats 400000 in
theorem bytes_yes (a b c d : ByteArray) (w : World) (h0 : a.size ≤ 65536) (h1 : b.size ≤ 65536) (h2 : c.size ≤ 65536) (h3 : d.size ≤ 65536) :
    Calls Try.prog 6 #[.string a, .string b, .string c, .string d] w fun e w' => e = .returned (.bool true) ∧ w = w' := by
  go_enter Try.func6, Try.ntmps6
  go_wp2
  go_ret
  exact ⟨rfl, rfl⟩

/-- Does it hold the mark? -/
def hasU (s : ByteArray) : Bool := decide ((95 : UInt8) ∈ s.data.toList)

theorem byte_eq (b : UInt8) : ((b.toNat : Int) == 95) = decide (b = 95) := by
  by_cases e : b = 95
  · subst e; rfl
  · rw [decide_eq_false e, beq_eq_false_iff_ne]
    intro h
    apply e
    apply UInt8.toNat_inj.1
    show b.toNat = 95
    omega

theorem take_snoc (s : ByteArray) (k : Nat) (h : k < s.size) : s.data.toList.take (k + 1) = s.data.toList.take k ++ [s[k]] := by
  rw [List.take_succ_eq_append_getElem (by simpa using h)]; rfl

set_option maxHeartbeats 400000 in
theorem under_core (s : ByteArray) (w : World) (hs : s.size ≤ 65536) :
    Calls Try.prog 7 #[.string s] w fun e w' => e = .returned (.bool (hasU s)) ∧ w = w' := by
  go_enter Try.func7, Try.ntmps7
  go_wp2
  go_loop [3] (fun i => ∃ k : Nat, k ≤ s.size ∧ i = .int .i64 k ∧ Hid ((95 : UInt8) ∉ s.data.toList.take k)) (fun i => s.size - (intOf i).toNat)
  case atStart => exact ⟨0, Nat.zero_le _, rfl, by show _ ∉ _; simp⟩
  case round =>
    obtain ⟨k, hk, rfl, HN⟩ := hrel
    by_cases hlt : k < s.size
    · have HT : Hid (s.data.toList.take (k + 1) = s.data.toList.take k ++ [s[k]]) := take_snoc s k hlt
      go_wp2
      · have h : ((s[k].toNat : Int) == 95) = true := by assumption
        go_ret
        have e : s[k] = 95 := by rw [byte_eq] at h; exact of_decide_eq_true h
        have hx : (95 : UInt8) ∈ s.data.toList := List.mem_of_mem_take (i := k + 1) (by rw [HT.out, e]; simp)
        exact ⟨ret_bool (decide_eq_true hx).symm, rfl⟩
      · have h : ((s[k].toNat : Int) == 95) = false := by assumption
        have e : ¬ s[k] = 95 := by rw [byte_eq] at h; exact of_decide_eq_false h
        go_round
        case rel =>
          refine ⟨k + 1, by omega, by go_num, ?_⟩
          show _ ∉ _
          rw [HT.out]
          intro hh
          rcases List.mem_append.1 hh with hh | hh
          · exact HN.out hh
          · exact e (List.mem_singleton.1 hh).symm
        case measure => simp [intOf]; omega
    · have hx : Hid ((95 : UInt8) ∉ s.data.toList) := by
        have := HN.out
        rwa [List.take_of_length_le (by rw [Plain.size_toList]; omega)] at this
      go_wp2
      go_ret
      exact ⟨ret_bool (decide_eq_false hx.out).symm, rfl⟩

set_option maxHeartbeats 400000 in
theorem prefix_core (s t : ByteArray) (w : World) (hs : s.size ≤ 65536) (ht : t.size ≤ 65536) :
    Calls Try.prog 8 #[.string s, .string t] w fun e w' => e = .returned (.string (Plain.rel s t)) ∧ w = w' := by
  go_enter Try.func8, Try.ntmps8
  go_wp2
  go_ret
  exact ⟨rfl, rfl⟩

set_option maxHeartbeats 400000 in
theorem middle_core (s p t m : ByteArray) (w : World) (hs : s.size ≤ 1048576) (ht : t.size ≤ 65536) (hp : p.size ≤ 65536) (hl : p.size + t.size ≤ s.size)
    (h1 : ((s.extract 0 p.size).toList == p.toList) = true) (h2 : ((s.extract (s.size - t.size) s.size).toList == t.toList) = true) (hm : s.extract p.size (s.size - t.size) = m) :
    Calls Try.prog 9 #[.string s, .string p, .string t] w fun e w' => e = .returned (.tuple #[.string m, .bool true]) ∧ w = w' := by
  have HM : Hid (s.extract p.size (s.size - t.size) = m) := hm
  clear hm
  go_enter Try.func9, Try.ntmps9
  go_wp2
  go_ret2
  rw [← HM.out]
  exact ⟨rfl, rfl⟩

/-- What the loop of the split keeps. -/
def SpR (w : World) (ns : Nat) (m : ByteArray) (k : Nat) (v st : Value) (wr : World) : Prop :=
  Below w.heap.size w wr ∧
  ((k ≤ ns ∧ v = .slice none 0 0 ∧ st = .int .i64 0) ∨
   (ns < k ∧ st = .int .i64 ((ns + 1 : Nat) : Int) ∧ ∃ g cap, v = .slice (some ⟨g, 0, none⟩) 1 cap ∧ wr.ownsRow w.heap.size 9 1 (.slice (some ⟨g, 0, none⟩) 1 cap) 1 [.string (m.extract 0 ns)]))

set_option maxHeartbeats 800000 in
set_option maxRecDepth 100000 in
theorem split_core (m : ByteArray) (ns : Nat) (w : World) (hm : m.size ≤ 1048576) (hns : ns < m.size) (hb : ∀ (k : Nat) (hk : k < m.size), (((m[k]'hk).toNat : Int) == 95) = decide (k = ns)) :
    Calls Try.prog 10 #[.string m] w fun e w' => (∃ g cap, e = .returned (.slice (some ⟨g, 0, none⟩) 2 cap) ∧ w'.cell? ⟨g, 0, none⟩ = some (.string (m.extract 0 ns)) ∧ w'.cell? ⟨g, 1, none⟩ = some (.string (m.extract (ns + 1) m.size))) ∧ Below w.heap.size w w' := by
  obtain ⟨i9, hi9, hz90, hz91, hz92⟩ := info_parts Try.info9
  have HB : Hid (∀ (k : Nat) (hk : k < m.size), (((m[k]'hk).toNat : Int) == 95) = decide (k = ns)) := hb
  clear hb
  go_enter Try.func10, Try.ntmps10
  go_wp2
  go_loopw [3, 4, 5] (fun v st i wr => ∃ k : Nat, k ≤ m.size ∧ i = .int .i64 k ∧ SpR w ns m k v st wr) (fun _ _ i _ => m.size - (intOf i).toNat)
  case atStart => exact ⟨0, Nat.zero_le _, rfl, Below.refl _ _, .inl ⟨Nat.zero_le _, rfl, rfl⟩⟩
  case round =>
    obtain ⟨k, hk, rfl, hbel, hr⟩ := hrel
    have hsz := hbel.size
    by_cases hlt : k < m.size
    · have hbk := HB.out k hlt
      rcases hr with ⟨hkn, rfl, rfl⟩ | ⟨hkn, rfl, g, cap, rfl, hown⟩
      · by_cases hke : k = ns
        · subst hke
          rw [decide_eq_true rfl] at hbk
          go_wp2_with (at_builtin; refine wpList_append_lies _ rfl (.tmp 16) (.tmp 21) 27 rfl w.heap.size 9 i9 (.string ByteArray.empty) 1 16 Try.underlying27 hi9 hz90 hz91 hz92 rfl (by omega) _ 0 [] rfl (World.ownsRow_nil _ _ _ _) ⟨wr.heap.size, 0, none⟩ 1 1 [.string (m.extract 0 k)] rfl rfl ?c1 ?c2 (by omega) ?c3 ?c4 ?c5 (wr.heap.size + 1) (by simp) ?_)
          case c1 => exact cell_one_new _ _ _
          case c2 => first | rfl | (intro u hu; simp at hu; subst hu; rfl)
          case c3 => unfold maxLen; omega
          case c4 => omega
          case c5 => first | omega | (simp; omega)
          intro g cap w1 hown hgrow _ _
          have hbel1 : Below w.heap.size w w1 := (hbel.alloc hsz _).grown hgrow (by simp; omega) (by simp [Value.ownBlock])
          clear hgrow
          go_wp2
          go_roundw
          case rel => exact ⟨k + 1, by omega, by go_num, hbel1, .inr ⟨by omega, by go_num, g, cap, rfl, hown⟩⟩
          case measure => simp [intOf]; omega
        · rw [decide_eq_false hke] at hbk
          have hk2 : k < ns := by omega
          clear hke
          go_wp2
          go_roundw
          case rel => exact ⟨k + 1, by omega, by go_num, hbel, .inl ⟨by omega, rfl, rfl⟩⟩
          case measure => simp [intOf]; omega
      · rw [decide_eq_false (by omega)] at hbk
        go_wp2
        go_roundw
        case rel => exact ⟨k + 1, by omega, by go_num, hbel, .inr ⟨by omega, rfl, g, cap, rfl, hown⟩⟩
        case measure => simp [intOf]; omega
    · rcases hr with ⟨hkn, _, _⟩ | ⟨hkn, rfl, g, cap, rfl, hown⟩
      · omega
      · have hn1 : ns + 1 ≤ m.size := by omega
        go_wp2_with (at_builtin; refine wpList_append_lies _ rfl (.tmp 25) (.tmp 29) 27 rfl w.heap.size 9 i9 (.string ByteArray.empty) 1 16 Try.underlying27 hi9 hz90 hz91 hz92 rfl (by omega) _ 1 [.string (m.extract 0 ns)] rfl (World.ownsRow.alloc hown _) ⟨wr.heap.size, 0, none⟩ 1 1 [.string (m.extract (ns + 1) m.size)] rfl rfl ?d1 ?d2 (by omega) ?d3 ?d4 ?d5 (wr.heap.size + 1) (by simp) ?_)
        case d1 => exact cell_one_new _ _ _
        case d2 => first | rfl | (intro u hu; simp at hu; subst hu; rfl)
        case d3 => unfold maxLen; omega
        case d4 => omega
        case d5 => first | omega | (simp; omega)
        intro g' cap' w1 hown1 hgrow _ _
        have hbel1 : Below w.heap.size w w1 := (hbel.alloc hsz _).grown hgrow (by simp; omega) (fun j hj => (hown.lt j hj).1)
        have k0 := hown1.cellAt 0 (by omega)
        have k1 := hown1.cellAt 1 (by omega)
        clear hgrow hown hown1
        go_wp2
        go_ret
        exact ⟨⟨g', cap', rfl, k0, k1⟩, hbel1⟩

end Go.Proofs.Qxb6615689a
