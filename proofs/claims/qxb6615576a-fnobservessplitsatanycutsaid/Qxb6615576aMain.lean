/-
  THE WALK of seat b6615576a: FnObservesSplitsAtAnyCut.
-/
import Derived.Test.Qxb6615576aClocks
import Derived.Deep.RegionHeld3
namespace Go.Proofs.Qxb6615576a
open Go.RowKit Go.Maps

/-- What is asked of zzBuildClock. -/
def BuildSaid (css : List (List (Int × Int))) : Prop :=
  ∀ ds ∈ css, ds.length ≤ 4096 → ∀ (w' : World) (v : Value), RdD w' v ds → Calls Try.prog 8 #[v] w' fun e w'' => ∃ bc, e = .returned (.pointer (some ⟨bc, 0, none⟩)) ∧ Clk w'' bc ds ∧ Below w'.heap.size w' w''

theorem Clks.take {w : World} {b len c cap : Nat} {css : List (List (Int × Int))} (h : Clks w b 0 css) (hz : css.length = len) (hl : len ≤ 1048576) (hc : c ≤ len) : RdC w (.slice (some ⟨b, 0, none⟩) c cap) (css.take c) := by
  have e : (css.take c).length = c := by rw [List.length_take]; omega
  refine ⟨some ⟨b, 0, none⟩, cap, by rw [e], by omega, .inr ⟨b, 0, rfl, fun k hk => ?_⟩⟩
  obtain ⟨bc, h1, h2⟩ := h k (by omega)
  refine ⟨bc, h1, ?_⟩
  have e2 : (css.take c).getD k [] = css.getD k [] := by
    rw [List.getD_eq_getElem?_getD, List.getD_eq_getElem?_getD, List.getElem?_take, if_pos (by omega)]
  rw [e2]; exact h2

theorem Clks.drop {w : World} {b len c cap : Nat} {css : List (List (Int × Int))} (h : Clks w b 0 css) (hz : css.length = len) (hl : len ≤ 1048576) (hc : c ≤ len) (a : Option Addr) (ha : c < len → a = some ⟨b, c, none⟩) : RdC w (.slice a (len - c) cap) (css.drop c) := by
  have e : (css.drop c).length = len - c := by rw [List.length_drop]; omega
  refine ⟨a, cap, by rw [e], by omega, ?_⟩
  by_cases hlt : c < len
  · refine .inr ⟨b, c, ha hlt, fun k hk => ?_⟩
    obtain ⟨bc, h1, h2⟩ := h (c + k) (by omega)
    refine ⟨bc, by rw [← Nat.zero_add (c + k)]; exact h1, ?_⟩
    have e2 : (css.drop c).getD k [] = css.getD (c + k) [] := by
      rw [List.getD_eq_getElem?_getD, List.getD_eq_getElem?_getD, List.getElem?_drop]
    rw [e2]; exact h2
  · left
    exact List.drop_eq_nil_of_le (by omega)

set_option maxHeartbeats 4000000 in
set_option maxRecDepth 100000 in
theorem main_core (a : Option Addr) (b off len cap : Nat) (css : List (List (Int × Int))) (cut r n : Int) (w : World) (hl : len ≤ maxLen) (hz : css.length = len) (ha : 0 < len → a = some ⟨b, off, none⟩) (hc : Ctxs w b off css) (hm : ∀ ds ∈ css, ds.length ≤ maxLen)
    (hr : (Lit.int .u64 r).wf = true) (hn : 0 ≤ n) (hB : BuildSaid css) :
    Calls Try.prog 3 #[.slice a len cap, .int .i64 cut, .int .u64 r, .int .u64 n] w fun e w' => e = .returned (.bool true) ∧ Below w.heap.size w w' := by
  have H4 : Hid _ := bytes4 a b off len cap css cut r n w hl hz ha hc hm
  have HR : Hid ((Lit.int .u64 r).wf = true) := hr
  unfold maxLen at hl
  clear hm hr
  go_enter Try.func3, Try.ntmps3
  go_wp2_with fail
  refine Calls.mono H4.out ?_
  rintro e w' ⟨⟨R, rfl, hR⟩, hw⟩
  subst hw
  clear H4
  cases R
  · go_wp2
    go_ret
    exact ⟨rfl, Below.refl _ _⟩
  have HM : Hid (∀ ds ∈ css, ds.length ≤ 1048576) := hR rfl
  clear hR
  by_cases hbig : 4096 < len
  · go_wp2
    go_ret
    exact ⟨rfl, Below.refl _ _⟩
  have hd1 : decide ((4096 : Int) < (len : Int)) = false := decide_eq_false (by omega)
  go_wp2_with fail
  go_loop [9, 10] (fun s i => ∃ (k : Nat) (t : Nat), k ≤ len ∧ t ≤ 4096 ∧ s = .int .i64 t ∧ i = .int .i64 k ∧ Hid (∀ ds ∈ css.take k, ds.length ≤ 4096)) (fun _ i => len - (intOf i).toNat)
  case atStart => exact ⟨0, 0, Nat.zero_le _, by omega, rfl, rfl, fun ds h => by simp at h⟩
  case round =>
    obtain ⟨k, t, hk, ht, rfl, rfl, HK⟩ := hrel
    by_cases hlt : k < len
    · have ea := ha (by omega)
      subst ea
      clear ha
      have hk' : k < css.length := by omega
      obtain ⟨v, h1, a', cap', hv, _⟩ := hc k hk'
      have e1 : css.getD k [] = css[k] := by simp [hk']
      rw [e1] at hv
      rw [hv] at h1
      have hlen := HM.out css[k] (List.getElem_mem _)
      have HQ : Hid (css[k].length ≤ 4096 → ∀ ds ∈ css.take (k + 1), ds.length ≤ 4096) := by
        intro hq ds h
        rw [take_snoc' css k hk'] at h
        rcases List.mem_append.1 h with h | h
        · exact HK.out ds h
        · rw [List.mem_singleton.1 h]; exact hq
      clear e1 hv hc
      generalize css[k].length = q at *
      by_cases hs : 4096 < t + q
      · go_wp2
        go_ret
        exact ⟨rfl, Below.refl _ _⟩
      · go_wp2
        go_round
        case rel => exact ⟨k + 1, t + q, by omega, by omega, by go_num, by go_num, HQ.out (by omega)⟩
        case measure => simp [intOf]; omega
    · have HA : Hid (∀ ds ∈ css, ds.length ≤ 4096) := by have := HK.out; rwa [List.take_of_length_le (by omega)] at this
      clear HK
      by_cases hc0 : cut < 0
      · go_wp2
        go_ret
        exact ⟨rfl, Below.refl _ _⟩
      by_cases hc1 : (len : Int) < cut
      · go_wp2
        go_ret
        exact ⟨rfl, Below.refl _ _⟩
      obtain ⟨c, rfl⟩ := Int.eq_ofNat_of_zero_le (Int.not_lt.1 hc0)
      have hcl : c ≤ len := by omega
      have HCk : Hid _ := clocks_core a b off len cap css w (by omega) hz ha hc (fun k hk w' v hv => by
        have hk' : k < css.length := by omega
        have e1 : css.getD k [] = css[k] := by simp [hk']
        rw [e1] at hv ⊢
        exact hB _ (List.getElem_mem _) (HA.out _ (List.getElem_mem _)) w' v hv)
      go_wp2_with fail
      refine Calls.mono HCk.out ?_
      rintro e w1 ⟨rfl, hk1, hb1⟩
      have hc1' := hc.below hb1 (Nat.le_refl _)
      have s1 := hb1.size
      clear HCk
      have LL : len ≤ 1048576 := by omega
      go_wp2_with fail
      refine (observes_any ((Clks.take (c := len) (cap := len) hk1 hz LL (Nat.le_refl _)).below ((Below.refl _ _).alloc (Nat.le_refl _) _) (Nat.le_refl _)) HR.out hn).mono ?_
      rw [List.take_of_length_le (by omega)]
      rintro e w3 ⟨rfl, hb3⟩
      have d0 : w3.cell? ⟨w1.heap.size, 0, none⟩ = some (.int .u64 r) := (hb3.cell (p := ⟨w1.heap.size, 0, none⟩) (by simp)).trans (by simp [go_sem])
      have d1 : w3.cell? ⟨w1.heap.size, 1, none⟩ = some (.int .u64 n) := (hb3.cell (p := ⟨w1.heap.size, 1, none⟩) (by simp)).trans (by simp [go_sem])
      have hb13 : Below w1.heap.size w1 w3 := ((Below.refl _ _).alloc (Nat.le_refl _) _).trans (hb3.mono (by simp))
      have hbig3 : w1.heap.size < w3.heap.size := by have := hb3.size; simp at this; omega
      clear hb3
      have hk3 := hk1.below hb13 (Nat.le_refl _)
      have hx3 := hc1'.below hb13 (Nat.le_refl _)
      have H03 : Below w.heap.size w w3 := hb1.trans (hb13.mono s1)
      clear hk1 hc1' hb1
      have HL : Hid (∀ w', Below w3.heap.size w3 w' → Calls Try.prog 6 #[.slice (some ⟨w.heap.size, 0, none⟩) c len, .agg #[.int .u64 r, .int .u64 n]] w' fun e w'' => e = .returned (.bool (Plain.anyB (css.take c) r n)) ∧ Below w'.heap.size w' w'') := fun w' hw => observes_any ((Clks.take (c := c) (cap := len) hk3 hz LL hcl).below hw (Nat.le_refl _)) HR.out hn
      have hI1 : (0 : Int) ≤ (c : Int) := by omega
      have hI2 : (c : Int) ≤ (len : Int) := by omega
      go_wp2
      go_region_held3 (fun w' => w'.cell? ⟨w1.heap.size, 0, none⟩ = some (.int .u64 r) ∧ w'.cell? ⟨w1.heap.size, 1, none⟩ = some (.int .u64 n)) (go_keep) (first | (go_at_call 6; refine Calls.mono (HL.out _ (by exact (Below.refl _ _).drew)) ?_; rintro e w4 ⟨rfl, hb4⟩; have f1 : w4.cell? ⟨w1.heap.size, 0, none⟩ = some (.int .u64 r) := (hb4.cell (p := ⟨w1.heap.size, 0, none⟩) (by exact hbig3)).trans d0; have f2 : w4.cell? ⟨w1.heap.size, 1, none⟩ = some (.int .u64 n) := (hb4.cell (p := ⟨w1.heap.size, 1, none⟩) (by exact hbig3)).trans d1))
      have hb34 : Below w3.heap.size w3 w4 := ((Below.refl _ w3).drew).trans hb4
      have hk4 := hk3.below hb34 (Nat.le_refl _)
      have hx4 := hx3.below hb34 (Nat.le_refl _)
      have s34 := hb34.size
      have s13 := hb13.size
      have H04 : Below w.heap.size w w4 := H03.trans (hb34.mono (by omega))
      have hbig4 : w1.heap.size < w4.heap.size := by omega
      clear hb4 hb34 hk3 hx3 H03 d0 d1 HL
      have HE : Hid ((Plain.anyB (css.take c) r n || Plain.anyB (css.drop c) r n) = Plain.anyB css r n) := Plain.any_cut css c r n
      have HD : Hid (∀ w', Below w4.heap.size w4 w' → ∀ a', (c < len → a' = some ⟨w.heap.size, c, none⟩) → Calls Try.prog 6 #[.slice a' (len - c) (len - c), .agg #[.int .u64 r, .int .u64 n]] w' fun e w'' => e = .returned (.bool (Plain.anyB (css.drop c) r n)) ∧ Below w'.heap.size w' w'') := fun w' hw a' ha' => observes_any ((Clks.drop (c := c) (cap := len - c) hk4 hz LL hcl a' ha').below hw (Nat.le_refl _)) HR.out hn
      generalize Plain.anyB (css.take c) r n = RL at *
      generalize Plain.anyB (css.drop c) r n = RR at *
      by_cases hcc : len = c
      · subst hcc
        have HL2 : Hid (∀ w', Below w4.heap.size w4 w' → Calls Try.prog 6 #[.slice (some ⟨w.heap.size, 0, none⟩) 0 0, .agg #[.int .u64 r, .int .u64 n]] w' fun e w'' => e = .returned (.bool RR) ∧ Below w'.heap.size w' w'') := fun w' hw => by
          have := HD.out w' hw (some ⟨w.heap.size, 0, none⟩) (fun h => by omega)
          rwa [Nat.sub_self] at this
        clear HD
        go_wp2
        go_region_held3 (fun w' => w'.cell? ⟨w1.heap.size, 0, none⟩ = some (.int .u64 r) ∧ w'.cell? ⟨w1.heap.size, 1, none⟩ = some (.int .u64 n)) (go_keep) (first | (go_at_call 6; refine Calls.mono (HL2.out _ (by exact (Below.refl _ _).drew)) ?_; rintro e w5 ⟨rfl, hb5⟩; have g1 : w5.cell? ⟨w1.heap.size, 0, none⟩ = some (.int .u64 r) := (hb5.cell (p := ⟨w1.heap.size, 0, none⟩) (by exact hbig4)).trans f1; have g2 : w5.cell? ⟨w1.heap.size, 1, none⟩ = some (.int .u64 n) := (hb5.cell (p := ⟨w1.heap.size, 1, none⟩) (by exact hbig4)).trans f2))
        have hb45 : Below w4.heap.size w4 w5 := ((Below.refl _ w4).drew).trans hb5
        have hx5 := hx4.below hb45 (Nat.le_refl _)
        have H05 : Below w.heap.size w w5 := H04.trans (hb45.mono (by omega))
        have HAny : Hid _ := anyhas a b off len cap css r n w5 LL hz ha hx5 (fun ds hd => by have := HA.out ds hd; omega)
        clear hb5 hb45 hx4 hk4 H04 f1 f2 g1 g2 HL2 hx5
        generalize Plain.anyB css r n = RW at *
        go_wp2_with fail
        refine Calls.mono HAny.out ?_
        rintro e w6 ⟨rfl, hw6⟩
        subst hw6
        clear HAny
        cases RL
        · cases RR
          · have e : RW = false := HE.out.symm
            subst e
            go_wp2
            go_ret
            exact ⟨rfl, H05⟩
          · have e : RW = true := HE.out.symm
            subst e
            go_wp2
            go_ret
            exact ⟨rfl, H05⟩
        · have e : RW = true := HE.out.symm
          subst e
          go_wp2
          go_ret
          exact ⟨rfl, H05⟩
      · have HL2 : Hid (∀ w', Below w4.heap.size w4 w' → Calls Try.prog 6 #[.slice (some ⟨w.heap.size, c, none⟩) (len - c) (len - c), .agg #[.int .u64 r, .int .u64 n]] w' fun e w'' => e = .returned (.bool RR) ∧ Below w'.heap.size w' w'') := fun w' hw => HD.out w' hw _ (fun _ => rfl)
        clear HD
        go_wp2
        go_region_held3 (fun w' => w'.cell? ⟨w1.heap.size, 0, none⟩ = some (.int .u64 r) ∧ w'.cell? ⟨w1.heap.size, 1, none⟩ = some (.int .u64 n)) (go_keep) (first | (go_at_call 6; refine Calls.mono (HL2.out _ (by exact (Below.refl _ _).drew)) ?_; rintro e w5 ⟨rfl, hb5⟩; have g1 : w5.cell? ⟨w1.heap.size, 0, none⟩ = some (.int .u64 r) := (hb5.cell (p := ⟨w1.heap.size, 0, none⟩) (by exact hbig4)).trans f1; have g2 : w5.cell? ⟨w1.heap.size, 1, none⟩ = some (.int .u64 n) := (hb5.cell (p := ⟨w1.heap.size, 1, none⟩) (by exact hbig4)).trans f2))
        have hb45 : Below w4.heap.size w4 w5 := ((Below.refl _ w4).drew).trans hb5
        have hx5 := hx4.below hb45 (Nat.le_refl _)
        have H05 : Below w.heap.size w w5 := H04.trans (hb45.mono (by omega))
        have HAny : Hid _ := anyhas a b off len cap css r n w5 LL hz ha hx5 (fun ds hd => by have := HA.out ds hd; omega)
        clear hb5 hb45 hx4 hk4 H04 f1 f2 g1 g2 HL2 hx5
        generalize Plain.anyB css r n = RW at *
        go_wp2_with fail
        refine Calls.mono HAny.out ?_
        rintro e w6 ⟨rfl, hw6⟩
        subst hw6
        clear HAny
        cases RL
        · cases RR
          · have e : RW = false := HE.out.symm
            subst e
            go_wp2
            go_ret
            exact ⟨rfl, H05⟩
          · have e : RW = true := HE.out.symm
            subst e
            go_wp2
            go_ret
            exact ⟨rfl, H05⟩
        · have e : RW = true := HE.out.symm
          subst e
          go_wp2
          go_ret
          exact ⟨rfl, H05⟩

end Go.Proofs.Qxb6615576a
