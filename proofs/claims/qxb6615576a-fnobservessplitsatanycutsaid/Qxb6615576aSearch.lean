/-
  THE WALKS of seat b6615576a: slices.BinarySearchFunc over the ranges of one replica.
-/
import Derived.Test.Qxb6615576aLeaf
namespace Go.Proofs.Qxb6615576a
open Go.RowKit

theorem cmp_at (s : Int × Int) (n c : Int) (w : World) (h : cmpv s n = c) :
    Calls Try.prog 19 #[.agg #[.int .u64 s.1, .int .u64 s.2], .int .u64 n] w fun e w' => e = .returned (.int .i64 c) ∧ Below w.heap.size w w' := by
  subst h; exact cmp_core s.1 s.2 n w

theorem Dots.below {w w' : World} {b off : Nat} {ds : List (Int × Int)} (h : Dots w b off ds) {B : Nat} (hb : Below B w w') (hB : b < B) : Dots w' b off ds := fun k hk => by
  rw [hb.cell (p := ⟨b, off + k * 2, none⟩) hB, hb.cell (p := ⟨b, off + k * 2 + 1, none⟩) hB]; exact h k hk

set_option maxHeartbeats 800000 in
theorem search_some (b off len cap : Nat) (sp : List (Int × Int)) (n : Int) (w : World) (hl : len ≤ 1048576) (hz : sp.length = len) (hb : b < w.heap.size) (hc : Dots w b off sp) (hr : Plain.Rise sp) (R : Bool) (hR : R = true ↔ Plain.Cov sp n) :
    Calls Try.prog 18 #[.slice (some ⟨b, off, none⟩) len cap, .int .u64 n, .func (.func 19) #[] #[]] w fun e w' => (∃ i : Int, e = .returned (.tuple #[.int .i64 i, .bool R])) ∧ Below w.heap.size w w' := by
  have HR : Hid (R = true ↔ Plain.Cov sp n) := hR
  clear hR
  go_enter Try.func18, Try.ntmps18
  go_wp2_with fail
  go_loopw [9, 10] (fun i j wr => ∃ i' j' : Nat, i = .int .i64 i' ∧ j = .int .i64 j' ∧ Plain.Srch sp n i' j' ∧ Below w.heap.size w wr) (fun i j _ => (intOf j).toNat - (intOf i).toNat)
  case atStart => exact ⟨0, len, rfl, rfl, by rw [← hz]; exact Plain.srch_start sp n, Below.refl _ _⟩
  case round =>
    obtain ⟨i, j, rfl, rfl, hs, hbel⟩ := hrel
    have h1 := hs.le
    have h2 := hs.len
    by_cases hlt : i < j
    · obtain ⟨c1, c2⟩ := (hc.below hbel hb) ((i + j) / 2) (by omega)
      have hh : (i + j) / 2 < j := by omega
      have hih : i ≤ (i + j) / 2 := by omega
      by_cases hx : (Plain.at' sp ((i + j) / 2)).2 < n
      · have HC : Hid (cmpv (Plain.at' sp ((i + j) / 2)) n = -1) := by show _ = _; unfold cmpv; rw [if_pos hx]
        have hs1 := Plain.srch_up hr hs hh hx
        clear hx hs
        generalize Plain.at' sp ((i + j) / 2) = d at *
        go_wp2_with fail
        refine (cmp_at d n _ _ HC.out).mono ?_
        rintro e w1 ⟨rfl, hb1⟩
        go_wp2
        go_roundw
        case rel => exact ⟨(i + j) / 2 + 1, j, by go_num, rfl, hs1, hbel.trans (hb1.mono hbel.size)⟩
        case measure => simp [intOf]; omega
      · obtain ⟨c, hcv, hc0⟩ : ∃ c, cmpv (Plain.at' sp ((i + j) / 2)) n = c ∧ ¬ c < 0 := by
          refine ⟨_, rfl, ?_⟩
          unfold cmpv; rw [if_neg hx]; split <;> omega
        have HC : Hid (cmpv (Plain.at' sp ((i + j) / 2)) n = c) := hcv
        have hs1 := Plain.srch_down hr hs hh hx hih
        clear hx hs hcv
        generalize Plain.at' sp ((i + j) / 2) = d at *
        go_wp2_with fail
        refine (cmp_at d n _ _ HC.out).mono ?_
        rintro e w1 ⟨rfl, hb1⟩
        go_wp2
        go_roundw
        case rel => exact ⟨i, (i + j) / 2, rfl, by go_num, hs1, hbel.trans (hb1.mono hbel.size)⟩
        case measure => simp [intOf]; omega
    · have e : i = j := by omega
      subst e
      have hend := Plain.srch_end hr hs
      by_cases hil : i < len
      · obtain ⟨c1, c2⟩ := (hc.below hbel hb) i (by omega)
        have hx := hs.hi i (Nat.le_refl _) (by omega)
        by_cases hy : n < (Plain.at' sp i).1
        · have HC : Hid (cmpv (Plain.at' sp i) n = 1) := by show _ = _; unfold cmpv; rw [if_neg hx, if_pos hy]
          have HF : Hid (R = false) := by
            show R = false
            cases R
            · rfl
            · exact absurd hy (hend.1 (HR.out.1 rfl)).2
          clear hx hs hend hy
          generalize Plain.at' sp i = d at *
          go_wp2_with fail
          refine (cmp_at d n _ _ HC.out).mono ?_
          rintro e w1 ⟨rfl, hb1⟩
          go_wp2
          go_ret2
          rw [HF.out]
          exact ⟨⟨_, rfl⟩, hbel.trans (hb1.mono hbel.size)⟩
        · have HC : Hid (cmpv (Plain.at' sp i) n = 0) := by show _ = _; unfold cmpv; rw [if_neg hx, if_neg hy]
          have HF : Hid (R = true) := HR.out.2 (hend.2 ⟨by omega, hy⟩)
          clear hx hs hend hy
          generalize Plain.at' sp i = d at *
          go_wp2_with fail
          refine (cmp_at d n _ _ HC.out).mono ?_
          rintro e w1 ⟨rfl, hb1⟩
          go_wp2
          go_ret2
          rw [HF.out]
          exact ⟨⟨_, rfl⟩, hbel.trans (hb1.mono hbel.size)⟩
      · have HF : Hid (R = false) := by
          show R = false
          cases R
          · rfl
          · have := (hend.1 (HR.out.1 rfl)).1; omega
        clear hs hend
        go_wp2
        go_ret2
        rw [HF.out]
        exact ⟨⟨_, rfl⟩, hbel⟩

set_option maxHeartbeats 400000 in
theorem search_none (a : Option Addr) (cap : Nat) (n : Int) (w : World) :
    Calls Try.prog 18 #[.slice a 0 cap, .int .u64 n, .func (.func 19) #[] #[]] w fun e w' => (∃ i : Int, e = .returned (.tuple #[.int .i64 i, .bool false])) ∧ Below w.heap.size w w' := by
  go_enter Try.func18, Try.ntmps18
  go_wp2_with fail
  refine wp_loop_rounds 1 ?_
  rw [rounds_succ]
  go_wp2
  go_ret2
  exact ⟨⟨_, rfl⟩, Below.refl _ _⟩

end Go.Proofs.Qxb6615576a
