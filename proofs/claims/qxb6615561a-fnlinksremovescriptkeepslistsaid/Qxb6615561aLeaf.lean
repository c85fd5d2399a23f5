/-
  THE WALKS of the leaves of seat b6615561a: the two bounds, containsInt, equalInts.
-/
import Derived.Test.Qxb6615561aRows
import Derived.Test.Qxb6615561aPlain
import Derived.WalkKit
import Derived.WalkSpells
import Derived.WalkLawsBesides
import Derived.Deep.QuietTactic
import Derived.BigQuiet
namespace Go.Proofs.Qxb6615561a
open Go.RowKit

/-- A slice of numbers that can be read: zs are its elements. -/
def Rd (w : World) (v : Value) (zs : List Int) : Prop :=
  ∃ (a : Option Addr) (cap : Nat), v = .slice a zs.length cap ∧ zs.length ≤ 1048576 ∧
    (zs = [] ∨ ∃ b off, a = some ⟨b, off, none⟩ ∧ b < w.heap.size ∧ ∀ k, k < zs.length → w.cell? ⟨b, off + k, none⟩ = some (.int .i64 (zs.getD k 0)))

theorem bytes14 (a0 a1 : Option Addr) (n0 c0 n1 c1 : Nat) (x y : Int) (w : World) (h0 : n0 ≤ 65536) (h1 : n1 ≤ 65536) :
    Calls Try.prog 14 #[.slice a0 n0 c0, .slice a1 n1 c1, .int .i64 x, .int .i64 y] w fun e w' => e = .returned (.bool true) ∧ w' = w := by
  go_enter Try.func14, Try.ntmps14
  go_wp2
  go_ret
  exact ⟨rfl, rfl⟩

set_option maxHeartbeats 400000 in
theorem bytes14_any (a0 a1 : Option Addr) (n0 c0 n1 c1 : Nat) (x y : Int) (w : World) (h0 : n0 ≤ maxLen) (h1 : n1 ≤ maxLen) :
    Calls Try.prog 14 #[.slice a0 n0 c0, .slice a1 n1 c1, .int .i64 x, .int .i64 y] w fun e w' => (∃ r, e = .returned (.bool r)) ∧ w' = w := by
  unfold maxLen at h0 h1
  go_enter Try.func14, Try.ntmps14
  go_wp2
  all_goals (go_ret; exact ⟨⟨_, rfl⟩, rfl⟩)

theorem bytes34_any (a0 a1 a2 : Option Addr) (n0 c0 n1 c1 n2 c2 : Nat) (w : World) (h0 : n0 ≤ maxLen) (h1 : n1 ≤ maxLen) (h2 : n2 ≤ maxLen) :
    Calls Try.prog 34 #[.slice a0 n0 c0, .slice a1 n1 c1, .slice a2 n2 c2] w fun e w' => (∃ r, e = .returned (.bool r)) ∧ w' = w := by
  unfold maxLen at h0 h1 h2
  go_enter Try.func34, Try.ntmps34
  go_wp2
  all_goals (go_ret; exact ⟨⟨_, rfl⟩, rfl⟩)

theorem ret_bool {a b : Bool} (h : a = b) : Ending.returned (.bool a) = .returned (.bool b) := by rw [h]

theorem take_snoc' (zs : List Int) (k : Nat) (h : k < zs.length) : zs.take (k + 1) = zs.take k ++ [zs[k]] := List.take_succ_eq_append_getElem h

set_option maxHeartbeats 400000 in
theorem contains_some (b off len cap : Nat) (zs : List Int) (x : Int) (w : World) (hl : len ≤ 1048576) (hz : zs.length = len)
    (hc : ∀ k, k < len → w.cell? ⟨b, off + k, none⟩ = some (.int .i64 (zs.getD k 0))) :
    Calls Try.prog 16 #[.slice (some ⟨b, off, none⟩) len cap, .int .i64 x] w fun e w' => e = .returned (.bool (decide (x ∈ zs))) ∧ w' = w := by
  go_enter Try.func16, Try.ntmps16
  go_wp2
  go_loop [5] (fun i => ∃ k : Nat, k ≤ len ∧ i = .int .i64 k ∧ x ∉ zs.take k) (fun i => len - (intOf i).toNat)
  case atStart => exact ⟨0, Nat.zero_le _, rfl, by simp⟩
  case round =>
    obtain ⟨k, hk, rfl, hnot⟩ := hrel
    have HN : Hid (x ∉ zs.take k) := hnot
    clear hnot
    by_cases hlt : k < len
    · have hcell := hc k hlt
      have hkz : k < zs.length := by omega
      go_wp2
      · have h : (zs[k] == x) = true := by assumption
        go_ret
        have hx : x ∈ zs := by have := eq_of_beq h; subst this; exact List.getElem_mem _
        exact ⟨ret_bool (decide_eq_true hx).symm, rfl⟩
      · have h : (zs[k] == x) = false := by assumption
        go_round
        case rel =>
          refine ⟨k + 1, by omega, by go_num, ?_⟩
          rw [take_snoc' zs k hkz]
          simp only [List.mem_append, List.mem_singleton, not_or]
          exact ⟨HN.out, fun e => by rw [e] at h; simp at h⟩
        case measure => simp [intOf]; omega
    · go_wp2
      go_ret
      have hx : x ∉ zs := by have := HN.out; rwa [List.take_of_length_le (by omega)] at this
      exact ⟨ret_bool (decide_eq_false hx).symm, rfl⟩

set_option maxHeartbeats 400000 in
theorem contains_none (a : Option Addr) (cap : Nat) (x : Int) (w : World) :
    Calls Try.prog 16 #[.slice a 0 cap, .int .i64 x] w fun e w' => e = .returned (.bool false) ∧ w' = w := by
  go_enter Try.func16, Try.ntmps16
  go_wp2
  refine wp_loop_rounds 1 ?_
  rw [rounds_succ]
  go_wp2
  go_ret
  exact ⟨rfl, rfl⟩

/-- containsInt -/
theorem contains_any {v : Value} {zs : List Int} {w : World} (x : Int) (h : Rd w v zs) :
    Calls Try.prog 16 #[v, .int .i64 x] w fun e w' => e = .returned (.bool (decide (x ∈ zs))) ∧ w' = w := by
  obtain ⟨a, cap, rfl, hl, h⟩ := h
  rcases h with rfl | ⟨b, off, rfl, _, hc⟩
  · simpa using contains_none a cap x w
  · exact contains_some b off zs.length cap zs x w hl rfl hc

set_option maxHeartbeats 400000 in
theorem equal_some (b off cap b' off' cap' len : Nat) (zs : List Int) (w : World) (hl : len ≤ 1048576) (hz : zs.length = len)
    (hc : ∀ k, k < len → w.cell? ⟨b, off + k, none⟩ = some (.int .i64 (zs.getD k 0))) (hc' : ∀ k, k < len → w.cell? ⟨b', off' + k, none⟩ = some (.int .i64 (zs.getD k 0))) :
    Calls Try.prog 20 #[.slice (some ⟨b, off, none⟩) len cap, .slice (some ⟨b', off', none⟩) len cap'] w fun e w' => e = .returned (.bool true) ∧ ∃ n, w' = w.drewN n := by
  go_enter Try.func20, Try.ntmps20
  go_wp2
  go_loopw [5] (fun i wr => ∃ k : Nat, k ≤ len ∧ i = .int .i64 k ∧ ∃ n, wr = w.drewN n) (fun i _ => len - (intOf i).toNat)
  case atStart => exact ⟨0, Nat.zero_le _, rfl, 0, rfl⟩
  case round =>
    obtain ⟨k, hk, rfl, n, rfl⟩ := hrel
    by_cases hlt : k < len
    · have hcell := hc k hlt
      have hcell' := hc' k hlt
      have hI : (k : Int) < (len : Int) := by omega
      have hI0 : (0 : Int) ≤ (k : Int) := by omega
      go_wp2
      go_quiet (fail)
      go_wp2
      go_roundw
      case rel => exact ⟨k + 1, by omega, by go_num, _, rfl⟩
      case measure => simp [intOf]; omega
    · go_wp2
      go_ret
      exact ⟨rfl, n, rfl⟩

set_option maxHeartbeats 400000 in
theorem equal_none (a a' : Option Addr) (cap cap' : Nat) (w : World) :
    Calls Try.prog 20 #[.slice a 0 cap, .slice a' 0 cap'] w fun e w' => e = .returned (.bool true) ∧ ∃ n, w' = w.drewN n := by
  go_enter Try.func20, Try.ntmps20
  go_wp2
  refine wp_loop_rounds 1 ?_
  rw [rounds_succ]
  go_wp2
  go_ret
  exact ⟨rfl, 0, rfl⟩

/-- equalInts, at two slices of the same numbers -/
theorem equal_any {v v' : Value} {zs : List Int} {w : World} (h : Rd w v zs) (h' : Rd w v' zs) :
    Calls Try.prog 20 #[v, v'] w fun e w' => e = .returned (.bool true) ∧ ∃ n, w' = w.drewN n := by
  obtain ⟨a, cap, rfl, hl, h⟩ := h
  obtain ⟨a', cap', rfl, _, h'⟩ := h'
  rcases h with rfl | ⟨b, off, rfl, _, hc⟩
  · exact equal_none a a' cap cap' w
  · rcases h' with rfl | ⟨b', off', rfl, _, hc'⟩
    · exact equal_none _ _ cap cap' w
    · exact equal_some b off cap b' off' cap' zs.length zs w hl rfl hc hc'

end Go.Proofs.Qxb6615561a
