/-
  THE WALKS of seat b6615576a: (*Clock).Contains.
-/
import Derived.Test.Qxb6615576aMaps
import Derived.Deep.RegionWith
namespace Go.Proofs.Qxb6615576a
open Go.RowKit Go.Maps

set_option maxHeartbeats 800000 in
theorem contains_zero (a : Addr) (r : Int) (w : World) :
    Calls Try.prog 16 #[.pointer (some a), .agg #[.int .u64 r, .int .u64 0]] w fun e w' => e = .returned (.bool false) ∧ Below w.heap.size w w' := by
  go_enter Try.func16, Try.ntmps16
  go_wp2
  go_ret
  exact ⟨rfl, (Below.refl _ _).alloc (Nat.le_refl _) _⟩

set_option maxHeartbeats 800000 in
theorem contains_low (bc b1 : Nat) (r n c : Int) (w : World) (hn : (n == 0) = false) (hbc : bc < w.heap.size) (h0 : w.cell? ⟨bc, 0, none⟩ = some (.map (some b1)))
    (hl : ∀ (o : Obj) (q : Nat), (Instr.lookup 39 (.map (some b1)) (.int .u64 r) false).run Try.prog ((w.alloc o).drewN q) = .ok (.int .u64 c) ((w.alloc o).drewN q)) (hc : n ≤ c) :
    Calls Try.prog 16 #[.pointer (some ⟨bc, 0, none⟩), .agg #[.int .u64 r, .int .u64 n]] w fun e w' => e = .returned (.bool true) ∧ Below w.heap.size w w' := by
  go_enter Try.func16, Try.ntmps16
  go_wp2
  go_quiet (fail)
  go_wp2
  go_ret
  exact ⟨rfl, below_drewN ((Below.refl _ _).alloc (Nat.le_refl _) _) _⟩

set_option maxHeartbeats 800000 in
theorem contains_high (bc b1 b2 : Nat) (r n c : Int) (w : World) (v : Value) (R : Bool) (hn : (n == 0) = false) (hbc : bc < w.heap.size) (h0 : w.cell? ⟨bc, 0, none⟩ = some (.map (some b1))) (h1 : w.cell? ⟨bc, 1, none⟩ = some (.map (some b2)))
    (hl : ∀ (o : Obj) (q : Nat), (Instr.lookup 39 (.map (some b1)) (.int .u64 r) false).run Try.prog ((w.alloc o).drewN q) = .ok (.int .u64 c) ((w.alloc o).drewN q)) (hc : ¬ n ≤ c)
    (hl2 : ∀ (o : Obj) (q : Nat), (Instr.lookup 40 (.map (some b2)) (.int .u64 r) false).run Try.prog ((w.alloc o).drewN q) = .ok v ((w.alloc o).drewN q))
    (hs : ∀ w' : World, Below w.heap.size w w' → Calls Try.prog 18 #[v, .int .u64 n, .func (.func 19) #[] #[]] w' fun e w'' => (∃ i : Int, e = .returned (.tuple #[.int .i64 i, .bool R])) ∧ Below w'.heap.size w' w'') :
    Calls Try.prog 16 #[.pointer (some ⟨bc, 0, none⟩), .agg #[.int .u64 r, .int .u64 n]] w fun e w' => e = .returned (.bool R) ∧ Below w.heap.size w w' := by
  have HS : Hid (∀ w' : World, Below w.heap.size w w' → Calls Try.prog 18 #[v, .int .u64 n, .func (.func 19) #[] #[]] w' fun e w'' => (∃ i : Int, e = .returned (.tuple #[.int .i64 i, .bool R])) ∧ Below w'.heap.size w' w'') := hs
  clear hs
  go_enter Try.func16, Try.ntmps16
  go_wp2
  go_quiet (fail)
  go_wp2
  go_region_with (go_at_call 18; refine Calls.mono (HS.out _ (by exact (below_drewN ((Below.refl _ _).alloc (Nat.le_refl _) _) _).drew)) ?_; rintro e w1 ⟨⟨i, rfl⟩, hb1⟩)
  all_goals
    have hfin : Below w.heap.size w w1 := (below_drewN ((Below.refl _ _).alloc (Nat.le_refl _) _) _).trans (hb1.mono (by show w.heap.size ≤ (w.alloc _).heap.size; simp))
    clear hb1
    go_wp2
    go_ret
    exact ⟨rfl, hfin⟩

/-- (*Clock).Contains -/
theorem contains_any {w : World} {bc : Nat} {ds : List (Int × Int)} {b1 b2 n1 n2 : Nat} {f1 : Int → Int} {V : Int → Value} {f2 : Int → List (Int × Int)} (h : IsClock w bc ds b1 b2 n1 n2 f1 V f2) {r n : Int} (hr : (Lit.int .u64 r).wf = true) (hn : 0 ≤ n) :
    Calls Try.prog 16 #[.pointer (some ⟨bc, 0, none⟩), .agg #[.int .u64 r, .int .u64 n]] w fun e w' => e = .returned (.bool (Plain.hasB ds r n)) ∧ Below w.heap.size w w' := by
  by_cases h0 : n = 0
  · subst h0
    simpa [Plain.hasB] using contains_zero ⟨bc, 0, none⟩ r w
  have hnb : (n == 0) = false := beq_eq_false_iff_ne.2 h0
  have hiff := h.iff r n (by omega)
  have hl1 : ∀ (o : Obj) (q : Nat), (Instr.lookup 39 (.map (some b1)) (.int .u64 r) false).run Try.prog ((w.alloc o).drewN q) = .ok (.int .u64 (f1 r)) ((w.alloc o).drewN q) := fun o q =>
    (h.m1.same (w' := (w.alloc o).drewN q) (Below.heap_alloc w o b1 h.m1.lt)).look injI Try.underlying39 (zero23 _) rdI_zero hr
  by_cases hc : n ≤ f1 r
  · have hb : Plain.hasB ds r n = true := by simp [Plain.hasB, h0, hiff, hc]
    rw [hb]
    exact contains_low bc b1 r n (f1 r) w hnb h.lt h.c0 hl1 hc
  · have hl2 : ∀ (o : Obj) (q : Nat), (Instr.lookup 40 (.map (some b2)) (.int .u64 r) false).run Try.prog ((w.alloc o).drewN q) = .ok (V r) ((w.alloc o).drewN q) := fun o q =>
      (h.m2.same (w' := (w.alloc o).drewN q) (Below.heap_alloc w o b2 h.m2.lt)).look injS Try.underlying40 (zero42 _) rdS_zero hr
    have hR : Plain.hasB ds r n = true ↔ Plain.Cov (f2 r) n := by simp [Plain.hasB, h0, hiff, hc]
    refine contains_high bc b1 b2 r n (f1 r) w (V r) (Plain.hasB ds r n) hnb h.lt h.c0 h.c1 hl1 hc hl2 (fun w' hb => ?_)
    have hrow := (h.row r).below hb (Nat.le_refl _)
    obtain ⟨a, cap, e, hh⟩ := hrow
    rw [e]
    rcases hh with hh | ⟨b, off, rfl, hlt, hd⟩
    · rw [hh] at hR ⊢
      have : Plain.hasB ds r n = false := by
        cases hx : Plain.hasB ds r n
        · rfl
        · obtain ⟨s, hs, _⟩ := hR.1 hx; simp at hs
      rw [this]
      exact search_none a cap n w'
    · exact search_some b off (f2 r).length cap (f2 r) n w' (h.len r) rfl hlt hd (h.rise r) _ hR

end Go.Proofs.Qxb6615576a
