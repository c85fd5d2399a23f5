/-
  THE PROOF OF 'Rows.FnObservesSplitsAtAnyCutSaid': the row's frame after the shells of the kit, turned to a slice of slices of pairs; the walk is 'main_core'.
-/
import Derived.Test.Qxb6615576aRows
import Derived.Test.Qxb6615576aBuild
import Derived.Test.Qxb6615576aMain
import Derived.WalkKit
import Derived.ProofKit
import Derived.OpenShut
import Derived.ShutString
import Derived.ChangeOld
import Derived.Below
import Derived.Deep.SlicePairs
namespace Go.Proofs.Qxb6615576a.fnObservesSplitsAtAnyCut
open Go.ChangeShapes Go.WideShapes Go.ChangeAt Go.RowKit
open Go.ChangeMaps (open_string shut_string)
set_option linter.unusedVariables false

theorem own : ownKnob Try.prog.godebug = none := by kernel_rfl
theorem laidOut : laidOutB Try.prog = true := by kernel_rfl
theorem cells37 : Try.prog.cellsOf 37 = 2 := by kernel_rfl
theorem cells25 : Try.prog.cellsOf 25 = 1 := by kernel_rfl
theorem cells23 : Try.prog.cellsOf 23 = 1 := by kernel_rfl

def Bd (n : Int) : Prop := 0 ≤ n ∧ n ≤ 18446744073709551615
theorem bd_of {n : Int} (h : (Lit.int .u64 n).wf = true) : Bd n := by
  have := bounds_u64 h
  unfold Bd; omega

section
variable {H : Type} {enc : TypeId × Value → H} {w : World} {base : Nat} {spare : Nat → Bool} {held : Bool}

/-- A slice of dots that is read as data. -/
theorem dots_of {fuel : Nat} {v : Value} {x : DataW H × List MemPlace} (h : DataW.trod enc Try.prog w base spare held fuel 25 [v] = some x) :
    ∃ ds : List (Int × Int), RdD w v ds ∧ ds.length ≤ maxLen ∧ ∀ d ∈ ds, Bd d.1 ∧ Bd d.2 := by
  rcases Deep.open_slice_pairs Try.underlying25 Try.underlying37 cells37 rfl rfl cells23 cells23 h with ⟨hcs, _⟩ | ⟨a, len, cap, m, n, V0, V1, D0, D1, P0, P1, hcs, _, hl, hm, hmm, _, hx⟩
  · simp at hcs
    subst hcs
    exact ⟨[], ⟨none, 0, rfl, .inl rfl⟩, Nat.zero_le _, by simp⟩
  · simp at hcs
    subst hcs
    have hlm : len ≤ m := by rw [hmm]; split <;> omega
    have each : ∀ i, i < len → ∃ q : Int × Int, w.cell? (a.add (i * 2)) = some (.int .u64 q.1) ∧ w.cell? (a.add (i * 2 + 1)) = some (.int .u64 q.2) ∧ Bd q.1 ∧ Bd q.2 := by
      intro i hi
      obtain ⟨c0, c1, t0, t1⟩ := hx i (by omega)
      obtain ⟨n0, e0, _, w0⟩ := DataW.trod_int Try.underlying23 t0
      obtain ⟨n1, e1, _, w1⟩ := DataW.trod_int Try.underlying23 t1
      simp at e0 e1
      rw [e0] at c0
      rw [e1] at c1
      exact ⟨(n0, n1), c0, c1, bd_of w0, bd_of w1⟩
    obtain ⟨q, hq⟩ := Deep.choose_lt each
    have hlen : ((List.range len).map q).length = len := by simp
    refine ⟨(List.range len).map q, ⟨some a, cap, by rw [hlen], ?_⟩, by rw [hlen]; omega, fun d hd => ?_⟩
    · by_cases h0 : len = 0
      · left; rw [h0]; rfl
      · right
        obtain ⟨b, off, spot⟩ := a
        have c0 := (hq 0 (by omega)).1
        have hspot : spot = none := by simpa [Addr.add] using World.cell?_spot c0
        subst hspot
        refine ⟨b, off, rfl, ?_, fun k hk => ?_⟩
        · have := World.block_lt_of_cell? w _ c0
          rwa [add_plain] at this
        · rw [hlen] at hk
          have g := hq k hk
          rw [add_plain, add_plain] at g
          have e : Plain.at' ((List.range len).map q) k = q k := by simp [Plain.at', hk]
          rw [e]
          exact ⟨g.1, by rw [Nat.add_assoc]; exact g.2.1⟩
    · rw [List.mem_map] at hd
      obtain ⟨i, hi, rfl⟩ := hd
      exact (hq i (List.mem_range.1 hi)).2.2

/-- The whole argument. -/
theorem ctxs_of {fuel len cap : Nat} {a : Option Addr} {x : DataW H × List MemPlace} (h : DataW.trod enc Try.prog w base spare held fuel 22 [.slice a len cap] = some x) :
    ∃ (b off : Nat) (css : List (List (Int × Int))), len ≤ maxLen ∧ css.length = len ∧ (0 < len → a = some ⟨b, off, none⟩) ∧ Ctxs w b off css ∧ (∀ ds ∈ css, ds.length ≤ maxLen) ∧ ∀ ds ∈ css, ∀ d ∈ ds, Bd d.1 ∧ Bd d.2 := by
  rcases Deep.open_slice1 Try.underlying22 cells25 h with ⟨hcs, _⟩ | ⟨a', len', cap', m, n, V, D, Pl, hcs, _, hl, hm, hmm, _, hx⟩
  · simp at hcs
    obtain ⟨rfl, rfl, rfl⟩ := hcs
    exact ⟨0, 0, [], Nat.zero_le _, rfl, by omega, fun k hk => by simp at hk, by simp, by simp⟩
  · simp at hcs
    obtain ⟨rfl, rfl, rfl⟩ := hcs
    have hlm : len ≤ m := by rw [hmm]; split <;> omega
    have each : ∀ i, i < len → ∃ ds : List (Int × Int), w.cell? (a'.add i) = some (V i) ∧ RdD w (V i) ds ∧ ds.length ≤ maxLen ∧ ∀ d ∈ ds, Bd d.1 ∧ Bd d.2 := by
      intro i hi
      obtain ⟨c0, t0⟩ := hx i (by omega)
      obtain ⟨ds, h1, h2, h3⟩ := dots_of t0
      exact ⟨ds, c0, h1, h2, h3⟩
    obtain ⟨q, hq⟩ := Deep.choose_lt each
    have hlen : ((List.range len).map q).length = len := by simp
    have hmem : ∀ ds ∈ (List.range len).map q, ∃ i, i < len ∧ q i = ds := fun ds hd => by
      rw [List.mem_map] at hd
      obtain ⟨i, hi, e⟩ := hd
      exact ⟨i, List.mem_range.1 hi, e⟩
    by_cases h0 : len = 0
    · subst h0
      exact ⟨0, 0, [], Nat.zero_le _, rfl, by omega, fun k hk => by simp at hk, by simp, by simp⟩
    · obtain ⟨b, off, spot⟩ := a'
      have c0 := (hq 0 (by omega)).1
      have hspot : spot = none := by simpa [Addr.add] using World.cell?_spot c0
      subst hspot
      refine ⟨b, off, (List.range len).map q, by omega, hlen, fun _ => rfl, fun k hk => ?_, fun ds hd => ?_, fun ds hd => ?_⟩
      · rw [hlen] at hk
        have g := hq k hk
        rw [add_plain] at g
        have e : ((List.range len).map q).getD k [] = q k := by simp [hk]
        rw [e]
        exact ⟨_, g.1, g.2.1⟩
      · obtain ⟨i, hi, rfl⟩ := hmem ds hd
        exact (hq i hi).2.2.1
      · obtain ⟨i, hi, rfl⟩ := hmem ds hd
        exact (hq i hi).2.2.2
end

theorem build_all {css : List (List (Int × Int))} (hb : ∀ ds ∈ css, ∀ d ∈ ds, Bd d.1 ∧ Bd d.2) : BuildSaid css := by
  intro ds hd hl w' v hv
  obtain ⟨a, cap, rfl, h⟩ := hv
  rcases h with h | ⟨b, off, rfl, hlt, hdots⟩
  · exact build_core a 0 0 ds.length cap ds w' hl rfl (fun h' => by rw [h] at h'; simp at h') (fun k hk => by rw [h] at hk; simp at hk) (hb ds hd)
  · exact build_core _ b off ds.length cap ds w' hl rfl (fun _ => ⟨rfl, hlt⟩) hdots (hb ds hd)

/-! ### THE ROW's STEP -/
set_option maxRecDepth 100000 in
theorem lifted (os : Os) (started : os.Started) (H : Type) (enc : TypeId × Value → H) :
    ReturnsInHanded {} Try.checked os 3 .any (Rows.fnObservesSplitsAtAnyCutSpec.pre6 enc Try.prog Try.f3 Rows.fnObservesSplitsAtAnyCutRow.domain false) (Rows.fnObservesSplitsAtAnyCutSpec.post enc Try.prog Try.f3 false true false false) := by
  refine returnsInHanded_of_change (C := Try.checked) own started (by kernel_rfl) Try.func3
    (ChangeSpec.witness6 (enc := enc) (C := Try.checked) false ⟨#[], #[.slice none 0 0, .int .i64 0, .int .u64 0, .int .u64 0], []⟩ 8 (by kernel_rfl) (by kernel_rfl) (by kernel_rfl) (by kernel_rfl)) ?_
  intro W base args ds gs before hval0 hW hcnd _
  have hval : ∀ (j : Nat) t v, Try.f3.params[j]? = some t → args[j]? = some v → Value.okWide Try.prog W .any base t v := hval0
  have hW' := hW
  obtain ⟨p, q, hA0, hV, rfl, hfz, hnd⟩ := hW
  have hA : DataW.TrodAll enc Try.prog W 0 (fun _ => true) true Try.f3.params.toList args.toList ds p := hA0
  rw [Try.params3] at hA hval
  obtain ⟨v0, vs0, d0, ds0, p0, q0, hargs, rfl, rfl, h0, r0⟩ := trodAll_cons hA
  obtain ⟨v1, vs1, d1, ds1, p1, q1, rfl, rfl, rfl, h1, r1⟩ := trodAll_cons r0
  obtain ⟨v2, vs2, d2, ds2, p2, q2, rfl, rfl, rfl, h2, r2⟩ := trodAll_cons r1
  obtain ⟨v3, vs3, d3, ds3, p3, q3, rfl, rfl, rfl, h3, r3⟩ := trodAll_cons r2
  obtain ⟨rfl, rfl, rfl⟩ := trodAll_nil r3
  obtain rfl : args = #[v0, v1, v2, v3] := by cases args; simp_all
  obtain ⟨rfl, rfl⟩ := trodVars_none hV
  obtain ⟨a0, len0, cap0, rfl⟩ := okWide_slice Try.underlying22 (hval 0 22 v0 rfl rfl)
  have k0 := h0
  have lt0 : ∀ x ∈ p0, x.block < W.heap.size := by obtain ⟨m, hm⟩ := k0; exact DataW.trod_lt m _ _ _ hm
  obtain ⟨b, off, css, g1, g2, g3, g4, g5, g6⟩ : ∃ (b off : Nat) (css : List (List (Int × Int))), len0 ≤ maxLen ∧ css.length = len0 ∧ (0 < len0 → a0 = some ⟨b, off, none⟩) ∧ Ctxs W b off css ∧ (∀ ds ∈ css, ds.length ≤ maxLen) ∧ ∀ ds ∈ css, ∀ d ∈ ds, Bd d.1 ∧ Bd d.2 := by
    obtain ⟨fuel, hf⟩ := h0
    exact ctxs_of (by simpa [Value.cells] using hf)
  obtain ⟨a1, rfl, rfl, rfl, w1⟩ := open_int Try.underlying3 (hval 1 3 v1 rfl rfl) h1
  obtain ⟨a2, rfl, rfl, rfl, w2⟩ := open_int Try.underlying23 (hval 2 23 v2 rfl rfl) h2
  obtain ⟨a3, rfl, rfl, rfl, w3⟩ := open_int Try.underlying23 (hval 3 23 v3 rfl rfl) h3
  clear hA0 hval0
  refine (main_core a0 b off len0 cap0 css a1 a2 a3 W g1 g2 g3 g4 g5 w2 (bd_of w3).1 (build_all g6)).mono fun e W' ⟨he, bel⟩ => ?_
  subst he
  exact ⟨_, rfl, _, _, _, [], _, [], hW', trodAll_mk1 (shut_bool Try.underlying4 _), (trodAll_cons_mk (Below.trod laidOut (by kernel_rfl) (of_decide_eq_true (by kernel_rfl)) k0 bel lt0) (trodAll_cons_mk (shut_int Try.underlying3 w1) (trodAll_cons_mk (shut_int Try.underlying23 w2) (trodAll_cons_mk (shut_int Try.underlying23 w3) trodAll_mk0)))), rfl, bel.frame _, fun h => by cases h⟩

theorem over : Rows.fnObservesSplitsAtAnyCutRow.holds Try.pinned (OpenSpec.ofChange Rows.fnObservesSplitsAtAnyCutSpec) :=
  OpenClaim.holds_of_wide 3 Try.f3 rfl rfl rfl rfl rfl rfl rfl ⟨rfl, rfl, rfl, rfl, rfl⟩ rfl rfl rfl rfl rfl (by kernel_rfl) Try.func3 (by kernel_rfl)
    (of_decide_eq_true (by kernel_rfl)) (by unfold Func.isWrapper; first | (rw [if_pos (by decide +kernel)]; kernel_rfl) | (rw [if_neg (by decide +kernel)]; exact ⟨rfl, rfl⟩))
    (fun os started H enc _ => lifted os started H enc)

/-- THE STATEMENT -/
theorem proved : Rows.FnObservesSplitsAtAnyCutSaid := over
end Go.Proofs.Qxb6615576a.fnObservesSplitsAtAnyCut
