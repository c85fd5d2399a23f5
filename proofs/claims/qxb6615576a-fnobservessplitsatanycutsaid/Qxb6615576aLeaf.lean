/-
  THE WALKS of seat b6615576a: the leaves: zzLess, the search's closure, ZZspan, ZZnewClock, zzHas.
-/
import Derived.Test.Qxb6615576aRows
import Derived.Test.Qxb6615576aPlain
import Derived.WalkKit
import Derived.WalkSpells
import Derived.WalkLawsBesides
import Derived.Deep.QuietTactic
import Derived.BigQuiet
import Derived.Maps.OwnOps
import Derived.Maps.Views
namespace Go.Proofs.Qxb6615576a
open Go.RowKit

/-- A dot, a span, as a value. -/
def dv (d : Int × Int) : Value := .agg #[.int .u64 d.1, .int .u64 d.2]

theorem ret_bool {a b : Bool} (h : a = b) : Ending.returned (.bool a) = .returned (.bool b) := by rw [h]
theorem ret_int {k : IntKind} {a b : Int} (h : a = b) : Ending.returned (.int k a) = .returned (.int k b) := by rw [h]

set_option maxHeartbeats 400000 in
theorem less_core (a1 a2 b1 b2 : Int) (w : World) :
    Calls Try.prog 11 #[.agg #[.int .u64 a1, .int .u64 a2], .agg #[.int .u64 b1, .int .u64 b2]] w fun e w' => e = .returned (.bool (Plain.lessB (a1, a2) (b1, b2))) ∧ Below w.heap.size w w' := by
  by_cases h : a1 = b1
  · subst h
    go_enter Try.func11, Try.ntmps11
    go_wp2
    go_ret
    exact ⟨ret_bool (by simp [Plain.lessB]), ((Below.refl _ _).alloc (Nat.le_refl _) _).alloc (by simp) _⟩
  · have hb : (a1 != b1) = true := by rw [bne_iff_ne]; exact h
    have HH : Hid (¬ a1 = b1) := h
    clear h
    go_enter Try.func11, Try.ntmps11
    go_wp2
    go_ret
    exact ⟨ret_bool (by simp [Plain.lessB, HH.out]), ((Below.refl _ _).alloc (Nat.le_refl _) _).alloc (by simp) _⟩

/-- The closure of the search: below, beyond, or in the range. -/
def cmpv (s : Int × Int) (n : Int) : Int := if s.2 < n then -1 else if n < s.1 then 1 else 0

set_option maxHeartbeats 400000 in
theorem cmp_core (s1 s2 n : Int) (w : World) :
    Calls Try.prog 19 #[.agg #[.int .u64 s1, .int .u64 s2], .int .u64 n] w fun e w' => e = .returned (.int .i64 (cmpv (s1, s2) n)) ∧ Below w.heap.size w w' := by
  by_cases h1 : s2 < n
  · go_enter Try.func19, Try.ntmps19
    go_wp2
    go_ret
    exact ⟨ret_int (by simp [cmpv, h1]), (Below.refl _ _).alloc (Nat.le_refl _) _⟩
  · by_cases h2 : n < s1
    · go_enter Try.func19, Try.ntmps19
      go_wp2
      go_ret
      exact ⟨ret_int (by simp [cmpv, h1, h2]), (Below.refl _ _).alloc (Nat.le_refl _) _⟩
    · go_enter Try.func19, Try.ntmps19
      go_wp2
      go_ret
      exact ⟨ret_int (by simp only [cmpv]; rw [if_neg (by omega), if_neg (by omega)]), (Below.refl _ _).alloc (Nat.le_refl _) _⟩

set_option maxHeartbeats 400000 in
theorem span_core (a b : Int) (w : World) :
    Calls Try.prog 12 #[.int .u64 a, .int .u64 b] w fun e w' => e = .returned (.agg #[.int .u64 a, .int .u64 b]) ∧ Below w.heap.size w w' := by
  go_enter Try.func12, Try.ntmps12
  go_wp2
  exact bodyPost_ret (v := .agg #[.int .u64 a, .int .u64 b]) (by simp [results, Try.results12, go_sem]) rfl ⟨rfl, (Below.refl _ _).alloc (Nat.le_refl _) _⟩

set_option maxHeartbeats 400000 in
theorem clock_core (a b : Nat) (w : World) :
    Calls Try.prog 13 #[.map (some a), .map (some b)] w fun e w' => e = .returned (.pointer (some ⟨w.heap.size, 0, none⟩)) ∧ w' = w.alloc (.cells #[.map (some a), .map (some b)] 51) := by
  go_enter Try.func13, Try.ntmps13
  go_wp2
  go_ret
  exact ⟨rfl, rfl⟩

/-! ### rows of pairs in memory -/

def flat (ds : List (Int × Int)) : List Value := ds.flatMap (fun d => [.int .u64 d.1, .int .u64 d.2])

theorem flat_len (ds : List (Int × Int)) : (flat ds).length = ds.length * 2 := by
  induction ds with
  | nil => rfl
  | cons d r ih => simp [flat] at ih ⊢; omega

theorem flat_get : ∀ (ds : List (Int × Int)) (k : Nat), k < ds.length → (flat ds)[k * 2]? = some (.int .u64 (Plain.at' ds k).1) ∧ (flat ds)[k * 2 + 1]? = some (.int .u64 (Plain.at' ds k).2)
  | [], k, h => by simp at h
  | d :: r, 0, _ => by simp [flat, Plain.at']
  | d :: r, k + 1, h => by
    have ih := flat_get r k (by simpa using h)
    have e1 : (k + 1) * 2 = k * 2 + 2 := by omega
    have e2 : flat (d :: r) = .int .u64 d.1 :: .int .u64 d.2 :: flat r := by simp [flat]
    rw [e1, e2]
    simpa [Plain.at'] using ih

theorem flat_append (a b : List (Int × Int)) : flat (a ++ b) = flat a ++ flat b := by simp [flat]

theorem flat_set : ∀ (ds : List (Int × Int)) (k : Nat) (d : Int × Int), ((flat ds).set (k * 2) (.int .u64 d.1)).set (k * 2 + 1) (.int .u64 d.2) = flat (ds.set k d)
  | [], k, d => by simp [flat]
  | x :: r, 0, d => by simp [flat]
  | x :: r, k + 1, d => by
    have ih := flat_set r k d
    have e1 : (k + 1) * 2 = k * 2 + 2 := by omega
    have e2 : flat (x :: r) = .int .u64 x.1 :: .int .u64 x.2 :: flat r := by simp [flat]
    have e3 : flat ((x :: r).set (k + 1) d) = .int .u64 x.1 :: .int .u64 x.2 :: flat (r.set k d) := by simp [flat]
    rw [e1, e2, e3, ← ih]
    rfl

/-- The slice v, of pairs of type e, lies from block B on and holds ds. -/
def Own2 (w : World) (B : Nat) (e : TypeId) (v : Value) (ds : List (Int × Int)) : Prop := w.ownsRow B e 2 v ds.length (flat ds)

theorem Own2.cells {w : World} {B e g n cap : Nat} {ds : List (Int × Int)} (h : Own2 w B e (.slice (some ⟨g, 0, none⟩) n cap) ds) (hn : ds.length = n) {k : Nat} (hk : k < n) :
    w.cell? ⟨g, k * 2, none⟩ = some (.int .u64 (Plain.at' ds k).1) ∧ w.cell? ⟨g, k * 2 + 1, none⟩ = some (.int .u64 (Plain.at' ds k).2) := by
  subst hn
  unfold Own2 at h
  rw [World.ownsRow.cellAt h _ (by omega), World.ownsRow.cellAt h _ (by omega)]
  exact flat_get ds k hk

theorem Own2.below {w w' : World} {B C e : Nat} {v : Value} {zs : List (Int × Int)} (h : Own2 w B e v zs) (hb : Below C w w') (hC : w.heap.size ≤ C) : Own2 w' B e v zs := by
  refine ⟨h.1, ?_⟩
  rcases h.2 with h2 | ⟨g, cap, cur, hv, hg, hh, r⟩
  · exact .inl h2
  · refine .inr ⟨g, cap, cur, hv, hg, ?_, r⟩
    rw [hb.block g (Nat.lt_of_lt_of_le (Array.getElem?_eq_some_iff.1 hh).1 hC)]
    exact hh

/-- A row of dots that can be read. -/
def Dots (w : World) (b off : Nat) (ds : List (Int × Int)) : Prop :=
  ∀ k, k < ds.length → w.cell? ⟨b, off + k * 2, none⟩ = some (.int .u64 (Plain.at' ds k).1) ∧ w.cell? ⟨b, off + k * 2 + 1, none⟩ = some (.int .u64 (Plain.at' ds k).2)

theorem take_snoc' {α : Type} (zs : List α) (k : Nat) (h : k < zs.length) : zs.take (k + 1) = zs.take k ++ [zs[k]] := List.take_succ_eq_append_getElem h

theorem at_get {ds : List (Int × Int)} {k : Nat} (h : k < ds.length) : Plain.at' ds k = ds[k] := by simp [Plain.at', h]

set_option maxHeartbeats 400000 in
theorem has_some (b off len cap : Nat) (ds : List (Int × Int)) (r n : Int) (w : World) (hl : len ≤ 1048576) (hz : ds.length = len) (hn : (n == 0) = false) (hc : Dots w b off ds) :
    Calls Try.prog 10 #[.slice (some ⟨b, off, none⟩) len cap, .int .u64 r, .int .u64 n] w fun e w' => e = .returned (.bool (decide ((r, n) ∈ ds))) ∧ w = w' := by
  go_enter Try.func10, Try.ntmps10
  go_wp2
  go_loop [7] (fun i => ∃ k : Nat, k ≤ len ∧ i = .int .i64 k ∧ (r, n) ∉ ds.take k) (fun i => len - (intOf i).toNat)
  case atStart => exact ⟨0, Nat.zero_le _, rfl, by simp⟩
  case round =>
    obtain ⟨k, hk, rfl, hnot⟩ := hrel
    have HN : Hid ((r, n) ∉ ds.take k) := hnot
    clear hnot
    by_cases hlt : k < len
    · obtain ⟨c1, c2⟩ := hc k (by omega)
      have hk' : k < ds.length := by omega
      rw [at_get hk'] at c1 c2
      obtain ⟨d, hd⟩ : ∃ d, ds[k] = d := ⟨_, rfl⟩
      have HT : Hid (ds.take (k + 1) = ds.take k ++ [d]) := by show _ = _; rw [take_snoc' ds k hk', hd]
      have HM : Hid (d ∈ ds) := by show d ∈ ds; rw [← hd]; exact List.getElem_mem _
      rw [hd] at c1 c2
      clear hd
      obtain ⟨r', n'⟩ := d
      simp only at c1 c2
      have step : ¬ (r' = r ∧ n' = n) → (r, n) ∉ ds.take (k + 1) := by
        intro hne
        rw [HT.out]
        simp only [List.mem_append, List.mem_singleton, not_or, Prod.mk.injEq]
        exact ⟨HN.out, fun e => hne ⟨e.1.symm, e.2.symm⟩⟩
      have HS : Hid (¬ (r' = r ∧ n' = n) → (r, n) ∉ ds.take (k + 1)) := step
      clear step
      go_wp2
      · have h1 : r' = r := by assumption
        have h2 : (n' == n) = true := by assumption
        go_ret
        have hx : (r, n) ∈ ds := by rw [← h1, ← eq_of_beq h2]; exact HM.out
        exact ⟨ret_bool (decide_eq_true hx).symm, rfl⟩
      · have h2 : (n' == n) = false := by assumption
        go_round
        case rel => exact ⟨k + 1, by omega, by go_num, HS.out (fun e => by rw [e.2] at h2; simp at h2)⟩
        case measure => simp [intOf]; omega
      · have h1 : ¬ r' = r := by assumption
        go_round
        case rel => exact ⟨k + 1, by omega, by go_num, HS.out (fun e => h1 e.1)⟩
        case measure => simp [intOf]; omega
    · go_wp2
      go_ret
      have hx : (r, n) ∉ ds := by have := HN.out; rwa [List.take_of_length_le (by omega)] at this
      exact ⟨ret_bool (decide_eq_false hx).symm, rfl⟩

set_option maxHeartbeats 400000 in
theorem has_zero (a : Option Addr) (len cap : Nat) (r : Int) (w : World) :
    Calls Try.prog 10 #[.slice a len cap, .int .u64 r, .int .u64 0] w fun e w' => e = .returned (.bool false) ∧ w = w' := by
  go_enter Try.func10, Try.ntmps10
  go_wp2
  go_ret
  exact ⟨rfl, rfl⟩

set_option maxHeartbeats 400000 in
theorem has_none (a : Option Addr) (cap : Nat) (r n : Int) (w : World) (hn : (n == 0) = false) :
    Calls Try.prog 10 #[.slice a 0 cap, .int .u64 r, .int .u64 n] w fun e w' => e = .returned (.bool false) ∧ w = w' := by
  go_enter Try.func10, Try.ntmps10
  go_wp2
  refine wp_loop_rounds 1 ?_
  rw [rounds_succ]
  go_wp2
  go_ret
  exact ⟨rfl, rfl⟩

/-- A slice of dots that can be read. -/
def RdD (w : World) (v : Value) (ds : List (Int × Int)) : Prop :=
  ∃ (a : Option Addr) (cap : Nat), v = .slice a ds.length cap ∧ (ds = [] ∨ ∃ b off, a = some ⟨b, off, none⟩ ∧ b < w.heap.size ∧ Dots w b off ds)

/-- zzHas -/
theorem has_any {v : Value} {ds : List (Int × Int)} {w : World} (r n : Int) (h : RdD w v ds) (hl : ds.length ≤ 1048576) :
    Calls Try.prog 10 #[v, .int .u64 r, .int .u64 n] w fun e w' => e = .returned (.bool (Plain.hasB ds r n)) ∧ w = w' := by
  obtain ⟨a, cap, rfl, h⟩ := h
  by_cases h0 : n = 0
  · subst h0
    simpa [Plain.hasB] using has_zero a ds.length cap r w
  · have hb : (n == 0) = false := beq_eq_false_iff_ne.2 h0
    rcases h with rfl | ⟨b, off, rfl, _, hc⟩
    · simpa [Plain.hasB] using has_none a cap r n w hb
    · simpa [Plain.hasB, h0] using has_some b off ds.length cap ds r n w hl rfl hb hc

end Go.Proofs.Qxb6615576a
