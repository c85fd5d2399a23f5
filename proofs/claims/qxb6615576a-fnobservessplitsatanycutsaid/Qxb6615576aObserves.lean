/-
  THE WALKS of seat b6615576a: observes, through slices.ContainsFunc and slices.IndexFunc; zzAnyHas.
-/
import Derived.Test.Qxb6615576aContains
namespace Go.Proofs.Qxb6615576a
open Go.RowKit Go.Maps

/-- A pointer to block bc leads to a clock that has observed just ds. -/
def Clk (w : World) (bc : Nat) (ds : List (Int × Int)) : Prop := ∃ b1 b2 n1 n2 f1 V f2, IsClock w bc ds b1 b2 n1 n2 f1 V f2

theorem Clk.below {w w' : World} {bc : Nat} {ds : List (Int × Int)} (h : Clk w bc ds) {B : Nat} (hb : Below B w w') (hB : w.heap.size ≤ B) : Clk w' bc ds := by
  obtain ⟨b1, b2, n1, n2, f1, V, f2, h⟩ := h
  exact ⟨b1, b2, n1, n2, f1, V, f2, h.below hb hB⟩

/-- A row of pointers to clocks. -/
def Clks (w : World) (b off : Nat) (css : List (List (Int × Int))) : Prop :=
  ∀ k, k < css.length → ∃ bc, w.cell? ⟨b, off + k, none⟩ = some (.pointer (some ⟨bc, 0, none⟩)) ∧ Clk w bc (css.getD k [])

theorem Clks.below {w w' : World} {b off : Nat} {css : List (List (Int × Int))} (h : Clks w b off css) {B : Nat} (hb : Below B w w') (hB : w.heap.size ≤ B) : Clks w' b off css := fun k hk => by
  obtain ⟨bc, h1, h2⟩ := h k hk
  refine ⟨bc, ?_, h2.below hb hB⟩
  rw [hb.cell (p := ⟨b, off + k, none⟩) (by have := World.block_lt_of_cell? w _ h1; exact Nat.lt_of_lt_of_le this hB)]
  exact h1

theorem contains_clk {w : World} {bc : Nat} {ds : List (Int × Int)} (h : Clk w bc ds) {r n : Int} (hr : (Lit.int .u64 r).wf = true) (hn : 0 ≤ n) {R : Bool} (hR : Plain.hasB ds r n = R) :
    Calls Try.prog 16 #[.pointer (some ⟨bc, 0, none⟩), .agg #[.int .u64 r, .int .u64 n]] w fun e w' => e = .returned (.bool R) ∧ Below w.heap.size w w' := by
  obtain ⟨b1, b2, n1, n2, f1, V, f2, h⟩ := h
  subst hR
  exact contains_any h hr hn

set_option maxHeartbeats 400000 in
theorem closure_core (bc bd : Nat) (r n : Int) (R : Bool) (w : World) (h : Calls Try.prog 16 #[.pointer (some ⟨bc, 0, none⟩), .agg #[.int .u64 r, .int .u64 n]] w fun e w' => e = .returned (.bool R) ∧ Below w.heap.size w w')
    (c0 : w.cell? ⟨bd, 0, none⟩ = some (.int .u64 r)) (c1 : w.cell? ⟨bd, 1, none⟩ = some (.int .u64 n)) :
    Calls Try.prog 15 #[.pointer (some ⟨bc, 0, none⟩), .pointer (some ⟨bd, 0, none⟩)] w fun e w' => e = .returned (.bool R) ∧ Below w.heap.size w w' := by
  have HC : Hid _ := h
  clear h
  go_enter Try.func15, Try.ntmps15
  go_wp2_with fail
  refine Calls.mono HC.out ?_
  rintro e w1 ⟨rfl, hb1⟩
  go_wp2
  go_ret
  exact ⟨rfl, hb1⟩

set_option maxHeartbeats 800000 in
theorem index_some (b off len cap bd : Nat) (css : List (List (Int × Int))) (r n : Int) (w : World) (hl : len ≤ 1048576) (hz : css.length = len) (hc : Clks w b off css) (hbd : bd < w.heap.size) (hr : (Lit.int .u64 r).wf = true) (hn : 0 ≤ n)
    (c0 : w.cell? ⟨bd, 0, none⟩ = some (.int .u64 r)) (c1 : w.cell? ⟨bd, 1, none⟩ = some (.int .u64 n)) :
    Calls Try.prog 17 #[.slice (some ⟨b, off, none⟩) len cap, .func (.func 15) #[] #[.pointer (some ⟨bd, 0, none⟩)]] w fun e w' => (∃ i : Int, e = .returned (.int .i64 i) ∧ (0 ≤ i ↔ Plain.anyB css r n = true)) ∧ Below w.heap.size w w' := by
  go_enter Try.func17, Try.ntmps17
  go_wp2_with fail
  go_loopw [8] (fun i wr => ∃ k : Nat, k ≤ len ∧ i = .int .i64 k ∧ Plain.anyB (css.take k) r n = false ∧ Below w.heap.size w wr) (fun i _ => len - (intOf i).toNat)
  case atStart => exact ⟨0, Nat.zero_le _, rfl, rfl, Below.refl _ _⟩
  case round =>
    obtain ⟨k, hk, rfl, hnot, hbel⟩ := hrel
    have HN : Hid (Plain.anyB (css.take k) r n = false) := hnot
    clear hnot
    by_cases hlt : k < len
    · obtain ⟨bc, h1, h2⟩ := (hc.below hbel (Nat.le_refl _)) k (by omega)
      have hk' : k < css.length := by omega
      have e1 : css.getD k [] = css[k] := by simp [hk']
      rw [e1] at h2
      have d0 := (hbel.cell (p := ⟨bd, 0, none⟩) hbd).trans c0
      have d1 := (hbel.cell (p := ⟨bd, 1, none⟩) hbd).trans c1
      have HT : Hid (Plain.anyB (css.take (k + 1)) r n = Plain.hasB css[k] r n) := by
        show _ = _
        have := HN.out
        unfold Plain.anyB at this ⊢
        rw [take_snoc' css k hk', List.any_append, this]
        simp
      have HM : Hid (Plain.hasB css[k] r n = true → Plain.anyB css r n = true) := by
        intro hh
        unfold Plain.anyB
        rw [List.any_eq_true]
        exact ⟨css[k], List.getElem_mem _, hh⟩
      generalize css[k] = ds at *
      obtain ⟨R, hR⟩ : ∃ R, Plain.hasB ds r n = R := ⟨_, rfl⟩
      have HC : Hid _ := closure_core bc bd r n R wr (contains_clk h2 hr hn hR) d0 d1
      have HR : Hid (Plain.hasB ds r n = R) := hR
      clear hR d0 d1 h2 c0 c1
      go_wp2_with fail
      refine Calls.mono HC.out ?_
      rintro e w1 ⟨rfl, hb1⟩
      cases R
      · go_wp2
        go_roundw
        case rel => exact ⟨k + 1, by omega, by go_num, HT.out.trans HR.out, hbel.trans (hb1.mono hbel.size)⟩
        case measure => simp [intOf]; omega
      · go_wp2
        go_ret
        exact ⟨⟨_, rfl, ⟨fun _ => HM.out HR.out, fun _ => by omega⟩⟩, hbel.trans (hb1.mono hbel.size)⟩
    · have HF : Hid (Plain.anyB css r n = false) := by have := HN.out; rwa [List.take_of_length_le (by omega)] at this
      go_wp2
      go_ret
      exact ⟨⟨_, rfl, ⟨fun h => by omega, fun h => by rw [HF.out] at h; simp at h⟩⟩, hbel⟩

set_option maxHeartbeats 400000 in
theorem index_none (a : Option Addr) (cap : Nat) (f : Value) (w : World) :
    Calls Try.prog 17 #[.slice a 0 cap, f] w fun e w' => e = .returned (.int .i64 (-1)) ∧ Below w.heap.size w w' := by
  go_enter Try.func17, Try.ntmps17
  go_wp2_with fail
  refine wp_loop_rounds 1 ?_
  rw [rounds_succ]
  go_wp2
  go_ret
  exact ⟨rfl, Below.refl _ _⟩

/-- A slice of clocks that can be read. -/
def RdC (w : World) (v : Value) (css : List (List (Int × Int))) : Prop :=
  ∃ (a : Option Addr) (cap : Nat), v = .slice a css.length cap ∧ css.length ≤ 1048576 ∧ (css = [] ∨ ∃ b off, a = some ⟨b, off, none⟩ ∧ Clks w b off css)

theorem RdC.below {w w' : World} {v : Value} {css : List (List (Int × Int))} (h : RdC w v css) {B : Nat} (hb : Below B w w') (hB : w.heap.size ≤ B) : RdC w' v css := by
  obtain ⟨a, cap, rfl, hl, h⟩ := h
  refine ⟨a, cap, rfl, hl, ?_⟩
  rcases h with h | ⟨b, off, rfl, hc⟩
  · exact .inl h
  · exact .inr ⟨b, off, rfl, hc.below hb hB⟩

theorem index_any {w : World} {v : Value} {css : List (List (Int × Int))} (h : RdC w v css) {bd : Nat} {r n : Int} (hbd : bd < w.heap.size) (hr : (Lit.int .u64 r).wf = true) (hn : 0 ≤ n)
    (c0 : w.cell? ⟨bd, 0, none⟩ = some (.int .u64 r)) (c1 : w.cell? ⟨bd, 1, none⟩ = some (.int .u64 n)) :
    Calls Try.prog 17 #[v, .func (.func 15) #[] #[.pointer (some ⟨bd, 0, none⟩)]] w fun e w' => (∃ i : Int, e = .returned (.int .i64 i) ∧ (0 ≤ i ↔ Plain.anyB css r n = true)) ∧ Below w.heap.size w w' := by
  obtain ⟨a, cap, rfl, hl, h⟩ := h
  rcases h with rfl | ⟨b, off, rfl, hc⟩
  · exact (index_none a cap _ w).mono fun e w' ⟨h1, h2⟩ => ⟨⟨_, h1, by simp [Plain.anyB]⟩, h2⟩
  · exact index_some b off css.length cap bd css r n w hl rfl hc hbd hr hn c0 c1

set_option maxHeartbeats 400000 in
theorem containsF_core (v f : Value) (R : Bool) (w : World) (h : Calls Try.prog 17 #[v, f] w fun e w' => (∃ i : Int, e = .returned (.int .i64 i) ∧ (0 ≤ i ↔ R = true)) ∧ Below w.heap.size w w') :
    Calls Try.prog 14 #[v, f] w fun e w' => e = .returned (.bool R) ∧ Below w.heap.size w w' := by
  have HC : Hid _ := h
  clear h
  go_enter Try.func14, Try.ntmps14
  go_wp2_with fail
  refine Calls.mono HC.out ?_
  rintro e w1 ⟨⟨i, rfl, hi⟩, hb1⟩
  have HI : Hid (0 ≤ i ↔ R = true) := hi
  clear hi
  go_wp2
  go_ret
  refine ⟨ret_bool ?_, hb1⟩
  cases R
  · exact decide_eq_false (fun h => by simpa using HI.out.1 h)
  · exact decide_eq_true (HI.out.2 rfl)

set_option maxHeartbeats 400000 in
theorem observes_core (v : Value) (r n : Int) (R : Bool) (w : World)
    (h : Calls Try.prog 14 #[v, .func (.func 15) #[] #[.pointer (some ⟨w.heap.size, 0, none⟩)]] (w.alloc (.cells #[.int .u64 r, .int .u64 n] 30)) fun e w' => e = .returned (.bool R) ∧ Below (w.alloc (.cells #[.int .u64 r, .int .u64 n] 30)).heap.size (w.alloc (.cells #[.int .u64 r, .int .u64 n] 30)) w') :
    Calls Try.prog 9 #[v, .agg #[.int .u64 r, .int .u64 n]] w fun e w' => e = .returned (.bool R) ∧ Below w.heap.size w w' := by
  have HC : Hid _ := h
  clear h
  go_enter Try.func9, Try.ntmps9
  go_wp2_with fail
  refine Calls.mono HC.out ?_
  rintro e w1 ⟨rfl, hb1⟩
  have hfin : Below w.heap.size w w1 := ((Below.refl _ _).alloc (Nat.le_refl _) _).trans (hb1.mono (by simp))
  clear hb1
  go_wp2
  go_ret
  exact ⟨rfl, hfin⟩

set_option maxHeartbeats 400000 in
theorem zzobserves_core (v : Value) (r n : Int) (R : Bool) (w : World)
    (h : Calls Try.prog 9 #[v, .agg #[.int .u64 r, .int .u64 n]] (w.alloc (.cells #[.int .u64 r, .int .u64 n] 30)) fun e w' => e = .returned (.bool R) ∧ Below (w.alloc (.cells #[.int .u64 r, .int .u64 n] 30)).heap.size (w.alloc (.cells #[.int .u64 r, .int .u64 n] 30)) w') :
    Calls Try.prog 6 #[v, .agg #[.int .u64 r, .int .u64 n]] w fun e w' => e = .returned (.bool R) ∧ Below w.heap.size w w' := by
  have HC : Hid _ := h
  clear h
  go_enter Try.func6, Try.ntmps6
  go_wp2_with fail
  refine Calls.mono HC.out ?_
  rintro e w1 ⟨rfl, hb1⟩
  have hfin : Below w.heap.size w w1 := ((Below.refl _ _).alloc (Nat.le_refl _) _).trans (hb1.mono (by simp))
  clear hb1
  go_wp2
  go_ret
  exact ⟨rfl, hfin⟩

/-- ZZobserves -/
theorem observes_any {w : World} {v : Value} {css : List (List (Int × Int))} (h : RdC w v css) {r n : Int} (hr : (Lit.int .u64 r).wf = true) (hn : 0 ≤ n) :
    Calls Try.prog 6 #[v, .agg #[.int .u64 r, .int .u64 n]] w fun e w' => e = .returned (.bool (Plain.anyB css r n)) ∧ Below w.heap.size w w' := by
  refine zzobserves_core v r n _ w (observes_core v r n _ _ (containsF_core v _ _ _ (index_any ?_ (by simp) hr hn ?_ ?_)))
  · exact (h.below ((Below.refl _ _).alloc (Nat.le_refl _) _) (Nat.le_refl _)).below ((Below.refl _ _).alloc (Nat.le_refl _) _) (Nat.le_refl _)
  · simp [go_sem]
  · simp [go_sem]

end Go.Proofs.Qxb6615576a
