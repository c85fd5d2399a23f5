/-
  THE WALKS of seat b6615576a: the argument, a slice of slices of dots; zzBytes, zzAnyHas.
-/
import Derived.Test.Qxb6615576aObserves
namespace Go.Proofs.Qxb6615576a
open Go.RowKit Go.Maps

/-- The slices of dots that lie from ⟨b, off⟩ on. -/
def Ctxs (w : World) (b off : Nat) (css : List (List (Int × Int))) : Prop :=
  ∀ k, k < css.length → ∃ v, w.cell? ⟨b, off + k, none⟩ = some v ∧ RdD w v (css.getD k [])

theorem Ctxs.below {w w' : World} {b off : Nat} {css : List (List (Int × Int))} (h : Ctxs w b off css) {B : Nat} (hb : Below B w w') (hB : w.heap.size ≤ B) : Ctxs w' b off css := fun k hk => by
  obtain ⟨v, h1, h2⟩ := h k hk
  refine ⟨v, ?_, h2.below hb hB⟩
  rw [hb.cell (p := ⟨b, off + k, none⟩) (by have := World.block_lt_of_cell? w _ h1; exact Nat.lt_of_lt_of_le this hB)]
  exact h1

/-- What zzBytes answers. -/
def Answers (css : List (List (Int × Int))) (e : Ending) : Prop := ∃ R, e = .returned (.bool R) ∧ (R = true → ∀ ds ∈ css, ds.length ≤ 1048576)

set_option maxHeartbeats 800000 in
/-- zzBytes: it answers; if it says yes, no part is long -/
theorem bytes4 (a : Option Addr) (b off len cap : Nat) (css : List (List (Int × Int))) (cut : Int) (r n : Int) (w : World) (hl : len ≤ maxLen) (hz : css.length = len) (ha : 0 < len → a = some ⟨b, off, none⟩) (hc : Ctxs w b off css) (hm : ∀ ds ∈ css, ds.length ≤ maxLen) :
    Calls Try.prog 4 #[.slice a len cap, .int .i64 cut, .int .u64 r, .int .u64 n] w fun e w' => Answers css e ∧ w = w' := by
  unfold maxLen at hl hm
  have HM : Hid (∀ ds ∈ css, ds.length ≤ 9223372036854775807) := hm
  clear hm
  by_cases hbig : 1048576 < len
  · go_enter Try.func4, Try.ntmps4
    go_wp2
    go_ret
    exact ⟨⟨false, rfl, fun h => by cases h⟩, rfl⟩
  go_enter Try.func4, Try.ntmps4
  go_wp2_with fail
  go_loop [9, 10] (fun s i => ∃ (k : Nat) (t : Nat), k ≤ len ∧ t ≤ 1048576 ∧ s = .int .i64 t ∧ i = .int .i64 k ∧ Hid (∀ ds ∈ css.take k, ds.length ≤ 1048576)) (fun _ i => len - (intOf i).toNat)
  case atStart => exact ⟨0, len, Nat.zero_le _, by omega, by go_num, rfl, fun ds h => by simp at h⟩
  case round =>
    obtain ⟨k, t, hk, ht, rfl, rfl, HK⟩ := hrel
    by_cases hlt : k < len
    · have ea := ha (by omega)
      subst ea
      clear ha
      have hk' : k < css.length := by omega
      obtain ⟨v, h1, a', cap', hv, _⟩ := hc k hk'
      have e1 : css.getD k [] = css[k] := by simp [hk']
      rw [e1] at hv
      rw [hv] at h1
      have HT : Hid (∀ ds ∈ css.take (k + 1), ds ∈ css.take k ∨ ds = css[k]) := by
        intro ds h
        rw [take_snoc' css k hk'] at h
        rcases List.mem_append.1 h with h | h
        · exact .inl h
        · exact .inr (List.mem_singleton.1 h)
      have hlen := HM.out css[k] (List.getElem_mem _)
      have HQ : Hid (css[k].length ≤ 1048576 → ∀ ds ∈ css.take (k + 1), ds.length ≤ 1048576) := by
        intro hq ds h
        rcases HT.out ds h with h | h
        · exact HK.out ds h
        · rw [h]; exact hq
      clear e1 hv hc HT
      generalize css[k].length = q at *
      by_cases hq : 1048576 < q
      · go_wp2
        go_ret
        exact ⟨⟨false, rfl, fun h => by cases h⟩, rfl⟩
      · by_cases hs : 1048576 < t + q
        · go_wp2
          go_ret
          exact ⟨⟨false, rfl, fun h => by cases h⟩, rfl⟩
        · go_wp2
          go_round
          case rel => exact ⟨k + 1, t + q, by omega, by omega, by go_num, by go_num, HQ.out (by omega)⟩
          case measure => simp [intOf]; omega
    · have HA : Hid (∀ ds ∈ css, ds.length ≤ 1048576) := by have := HK.out; rwa [List.take_of_length_le (by omega)] at this
      go_wp2
      go_ret
      exact ⟨⟨true, rfl, fun _ => HA.out⟩, rfl⟩

set_option maxHeartbeats 800000 in
/-- zzAnyHas -/
theorem anyhas (a : Option Addr) (b off len cap : Nat) (css : List (List (Int × Int))) (r n : Int) (w : World) (hl : len ≤ 1048576) (hz : css.length = len) (ha : 0 < len → a = some ⟨b, off, none⟩) (hc : Ctxs w b off css) (hm : ∀ ds ∈ css, ds.length ≤ 1048576) :
    Calls Try.prog 7 #[.slice a len cap, .int .u64 r, .int .u64 n] w fun e w' => e = .returned (.bool (Plain.anyB css r n)) ∧ w = w' := by
  have HM : Hid (∀ ds ∈ css, ds.length ≤ 1048576) := hm
  clear hm
  go_enter Try.func7, Try.ntmps7
  go_wp2_with fail
  go_loop [7] (fun i => ∃ k : Nat, k ≤ len ∧ i = .int .i64 k ∧ Hid (Plain.anyB (css.take k) r n = false)) (fun i => len - (intOf i).toNat)
  case atStart => exact ⟨0, Nat.zero_le _, rfl, rfl⟩
  case round =>
    obtain ⟨k, hk, rfl, HN⟩ := hrel
    by_cases hlt : k < len
    · have ea := ha (by omega)
      subst ea
      clear ha
      have hk' : k < css.length := by omega
      obtain ⟨v, h1, h2⟩ := hc k hk'
      have e1 : css.getD k [] = css[k] := by simp [hk']
      rw [e1] at h2
      have HT : Hid (Plain.anyB (css.take (k + 1)) r n = Plain.hasB css[k] r n) := by
        show _ = _
        have := HN.out
        unfold Plain.anyB at this ⊢
        rw [take_snoc' css k hk', List.any_append, this]
        simp
      have HMm : Hid (Plain.hasB css[k] r n = true → Plain.anyB css r n = true) := by
        intro hh
        unfold Plain.anyB
        rw [List.any_eq_true]
        exact ⟨css[k], List.getElem_mem _, hh⟩
      have HC : Hid _ := has_any r n h2 (HM.out _ (List.getElem_mem _))
      clear e1 h2 hc
      generalize Plain.hasB css[k] r n = R at *
      go_wp2_with fail
      refine Calls.mono HC.out ?_
      rintro e w' ⟨rfl, hw⟩
      subst hw
      cases R
      · go_wp2
        go_round
        case rel => exact ⟨k + 1, by omega, by go_num, HT.out⟩
        case measure => simp [intOf]; omega
      · go_wp2
        go_ret
        exact ⟨ret_bool (HMm.out (by first | rfl | trivial)).symm, rfl⟩
    · have HF : Hid (Plain.anyB css r n = false) := by have := HN.out; rwa [List.take_of_length_le (by omega)] at this
      go_wp2
      go_ret
      exact ⟨ret_bool HF.out.symm, rfl⟩

end Go.Proofs.Qxb6615576a
