/-
  THE WALK of seat b6615576a: zzClocks.
-/
import Derived.Test.Qxb6615576aCtx
import Derived.Test.Qxb6615576aBuildR
namespace Go.Proofs.Qxb6615576a
open Go.RowKit Go.Maps

theorem Try.info33 : (Try.prog.info? 33).map (fun i => (i.zero, i.size, i.bytes)) = some (some (.pointer none), 1, 8) := by kernel_rfl

/-- A clock stays while a row of pointers is written. -/
theorem Clk.setCell {w : World} {B k bc : Nat} {ds : List (Int × Int)} (h : Clk w bc ds) (hp : ∀ o u, w.cell? ⟨B, o, none⟩ = some u → ∃ p, u = .pointer p) (hex : ∃ u, w.cell? ⟨B, k, none⟩ = some u) (v : Value) : Clk (w.setCell ⟨B, k, none⟩ v) bc ds := by
  obtain ⟨b1, b2, n1, n2, f1, V, f2, h⟩ := h
  have cellOther : ∀ b o, b ≠ B → (w.setCell ⟨B, k, none⟩ v).cell? ⟨b, o, none⟩ = w.cell? ⟨b, o, none⟩ := fun b o hb => World.cell?_of_block (Below.heap_setCell w ⟨B, k, none⟩ v b hb)
  have hbc : bc ≠ B := by
    intro e; subst e
    obtain ⟨p, hpp⟩ := hp 0 _ h.c0
    cases hpp
  have h1 : b1 ≠ B := by
    intro e; subst e
    obtain ⟨u, hu⟩ := hex
    rw [h.m1.noCell] at hu; cases hu
  have h2 : b2 ≠ B := by
    intro e; subst e
    obtain ⟨u, hu⟩ := hex
    rw [h.m2.noCell] at hu; cases hu
  refine ⟨b1, b2, n1, n2, f1, V, f2, ⟨by rw [cellOther bc 0 hbc]; exact h.c0, by rw [cellOther bc 1 hbc]; exact h.c1, h.m1.same (Below.heap_setCell w ⟨B, k, none⟩ v b1 h1), h.m2.same (Below.heap_setCell w ⟨B, k, none⟩ v b2 h2), fun r => ?_, h.len, h.rise, h.iff⟩⟩
  obtain ⟨a, cap, e, hh⟩ := h.row r
  refine ⟨a, cap, e, ?_⟩
  by_cases he : f2 r = []
  · exact .inl he
  rcases hh with hh | ⟨b, off, ea, hlt, hd⟩
  · exact .inl hh
  · have hpos : 0 < (f2 r).length := List.length_pos_iff.2 he
    have hb : b ≠ B := by
      intro e; subst e
      obtain ⟨p, hpp⟩ := hp _ _ (hd 0 hpos).1
      cases hpp
    refine .inr ⟨b, off, ea, by simpa using hlt, fun t ht => ?_⟩
    rw [cellOther b _ hb, cellOther b _ hb]
    exact hd t ht

/-- What the loop over the contexts keeps: the first k pointers lead to clocks. -/
structure PtR (w : World) (len k : Nat) (css : List (List (Int × Int))) (wy : World) : Prop where
  row : ∃ L : List (Option Addr), L.length = len ∧ wy.ownsRow w.heap.size 33 1 (.slice (some ⟨w.heap.size, 0, none⟩) len len) len (L.map Value.pointer) ∧
    ∀ t, t < k → ∃ bc, L[t]? = some (some ⟨bc, 0, none⟩) ∧ Clk wy bc (css.getD t [])
  bel : Below w.heap.size w wy
  big : w.heap.size < wy.heap.size

theorem PtR.start {w w1 : World} {len : Nat} {css : List (List (Int × Int))} (h : w1.ownsRow w.heap.size 33 1 (.slice (some ⟨w.heap.size, 0, none⟩) len len) len (madeCells (Value.pointer none).cells (len * 1)).toList) (hg : w.grownBy w1 none) : PtR w len 0 css w1 := by
  refine ⟨⟨List.replicate len none, by simp, ?_, fun t ht => by omega⟩, (Below.refl _ _).grown hg (Nat.le_refl _) (by simp), (h.lt w.heap.size rfl).2⟩
  have e : (madeCells (Value.pointer none).cells (len * 1)).toList = (List.replicate len none).map Value.pointer := by
    rw [Nat.mul_one]; simpa [Value.cells] using toList_madeCells_one (.pointer none) len
  rw [← e]; exact h

theorem PtR.below {w wy w' : World} {len k : Nat} {css : List (List (Int × Int))} (h : PtR w len k css wy) (hb : Below wy.heap.size wy w') : PtR w len k css w' := by
  obtain ⟨L, hL, ho, hc⟩ := h.row
  have hbig := h.big
  refine ⟨⟨L, hL, ?_, fun t ht => ?_⟩, h.bel.trans (hb.mono (by omega)), by have := hb.size; omega⟩
  · refine ⟨ho.1, ?_⟩
    rcases ho.2 with h2 | ⟨g, cap, cur, hv, hg, hh, r⟩
    · exact .inl h2
    · exact .inr ⟨g, cap, cur, hv, hg, by rw [hb.block g (Array.getElem?_eq_some_iff.1 hh).1]; exact hh, r⟩
  · obtain ⟨bc, h1, h2⟩ := hc t ht
    exact ⟨bc, h1, h2.below hb (Nat.le_refl _)⟩

theorem PtR.facts {w wy : World} {len k : Nat} {css : List (List (Int × Int))} (h : PtR w len k css wy) {t : Nat} (ht : t < len) : (∃ p, wy.cell? ⟨w.heap.size, t, none⟩ = some (.pointer p)) ∧ wy.frozen? ⟨w.heap.size, t, none⟩ = false := by
  obtain ⟨L, hL, ho, _⟩ := h.row
  refine ⟨⟨L[t]'(by omega), ?_⟩, ho.frozenAt t⟩
  rw [ho.cellAt t (by omega)]
  simp [hL, ht]

theorem PtR.ptrs {w wy : World} {len k : Nat} {css : List (List (Int × Int))} (h : PtR w len k css wy) : ∀ o u, wy.cell? ⟨w.heap.size, o, none⟩ = some u → ∃ p, u = .pointer p := by
  intro o u hu
  obtain ⟨L, hL, ho, _⟩ := h.row
  rcases ho.2 with ⟨h2, _⟩ | ⟨g, cap, cur, hv, _, hh, _, _, hs, htk⟩
  · simp at h2
  · simp only [Value.slice.injEq, Option.some.injEq, Addr.mk.injEq, and_true, true_and] at hv
    obtain ⟨rfl, rfl⟩ := hv
    rw [cell_of_row wy w.heap.size o cur 33 (0, 0) hh] at hu
    have e : cur.toList = L.map Value.pointer := by rw [← htk, List.take_of_length_le (by simp; omega)]
    have hu2 : cur.toList[o]? = some u := by simpa using hu
    rw [e, List.getElem?_map] at hu2
    cases hx : L[o]? with
    | none => rw [hx] at hu2; cases hu2
    | some p => rw [hx] at hu2; simp at hu2; exact ⟨p, hu2.symm⟩

theorem PtR.put {w wy : World} {len k bc : Nat} {css : List (List (Int × Int))} (h : PtR w len k css wy) (hk : k < len) (hc : Clk wy bc (css.getD k [])) : PtR w len (k + 1) css (wy.setCell ⟨w.heap.size, k, none⟩ (.pointer (some ⟨bc, 0, none⟩))) := by
  have hp := h.ptrs
  have hex : ∃ u, wy.cell? ⟨w.heap.size, k, none⟩ = some u := by obtain ⟨⟨p, hp⟩, _⟩ := h.facts hk; exact ⟨_, hp⟩
  obtain ⟨L, hL, ho, hcl⟩ := h.row
  refine ⟨⟨L.set k (some ⟨bc, 0, none⟩), by simpa using hL, ?_, fun t ht => ?_⟩, h.bel.setCell (Nat.le_refl _) _, by simpa using h.big⟩
  · have := (ho.stored k (.pointer (some ⟨bc, 0, none⟩))).1
    rwa [← List.map_set] at this
  · by_cases e : t = k
    · subst e
      exact ⟨bc, by rw [List.getElem?_set]; simp; omega, hc.setCell hp hex _⟩
    · obtain ⟨b', h1, h2⟩ := hcl t (by omega)
      exact ⟨b', by rw [List.getElem?_set, if_neg (fun h => e h.symm)]; exact h1, h2.setCell hp hex _⟩

theorem PtR.done' {w wy : World} {len : Nat} {css : List (List (Int × Int))} (h : PtR w len len css wy) (hz : css.length = len) : Clks wy w.heap.size 0 css := by
  intro t ht
  obtain ⟨L, hL, ho, hcl⟩ := h.row
  obtain ⟨bc, h1, h2⟩ := hcl t (by omega)
  refine ⟨bc, ?_, h2⟩
  rw [Nat.zero_add, ho.cellAt t (by omega), List.getElem?_map, h1]
  rfl

set_option maxHeartbeats 800000 in
set_option maxRecDepth 100000 in
theorem clocks_core (a : Option Addr) (b off len cap : Nat) (css : List (List (Int × Int))) (w : World) (hl : len ≤ 4096) (hz : css.length = len) (ha : 0 < len → a = some ⟨b, off, none⟩) (hc : Ctxs w b off css)
    (hb : ∀ k, k < len → ∀ (w' : World) (v : Value), RdD w' v (css.getD k []) → Calls Try.prog 8 #[v] w' fun e w'' => ∃ bc, e = .returned (.pointer (some ⟨bc, 0, none⟩)) ∧ Clk w'' bc (css.getD k []) ∧ Below w'.heap.size w' w'') :
    Calls Try.prog 5 #[.slice a len cap] w fun e w' => e = .returned (.slice (some ⟨w.heap.size, 0, none⟩) len len) ∧ Clks w' w.heap.size 0 css ∧ Below w.heap.size w w' := by
  have HB : Hid (∀ k, k < len → ∀ (w' : World) (v : Value), RdD w' v (css.getD k []) → Calls Try.prog 8 #[v] w' fun e w'' => ∃ bc, e = .returned (.pointer (some ⟨bc, 0, none⟩)) ∧ Clk w'' bc (css.getD k []) ∧ Below w'.heap.size w' w'') := hb
  clear hb
  obtain ⟨i33, hi33, hz330, hz331, hz332⟩ := info_parts Try.info33
  go_enter Try.func5, Try.ntmps5
  go_wp2_with (at_make; refine wpList_make_full _ rfl (.tmp 6) (.tmp 6) 26 rfl w.heap.size 33 i33 (.pointer none) 1 Try.underlying26 hi33 hz330 hz331 .i64 .i64 (len : Int) (len : Int) len rfl rfl rfl rfl (by rw [hz332]; omega) (by unfold maxLen; omega) (Nat.le_refl _) ?_; intro w1 hown hgrow)
  have st := PtR.start (css := css) hown hgrow
  clear hown hgrow hi33 hz330 hz331 hz332 i33
  go_loopw [4] (fun i wr => ∃ k : Nat, k ≤ len ∧ i = .int .i64 k ∧ PtR w len k css wr) (fun i _ => len - (intOf i).toNat)
  case atStart => exact ⟨0, Nat.zero_le _, rfl, st⟩
  case round =>
    clear st
    obtain ⟨k, hk, rfl, pr⟩ := hrel
    by_cases hlt : k < len
    · have ea := ha (by omega)
      subst ea
      clear ha
      obtain ⟨v, h1, h2⟩ := (hc.below pr.bel (Nat.le_refl _)) k (by omega)
      have HC : Hid _ := HB.out k hlt wr v h2
      clear h2 hc
      go_wp2_with fail
      refine Calls.mono HC.out ?_
      rintro e w2 ⟨bc, rfl, hclk, hb2⟩
      have pr2 := pr.below hb2
      obtain ⟨⟨p, hp⟩, hfr⟩ := pr2.facts hlt
      have pr3 := pr2.put hlt hclk
      clear hb2 pr2 hclk pr
      go_wp2
      go_roundw
      case rel => exact ⟨k + 1, by omega, by go_num, pr3⟩
      case measure => simp [intOf]; omega
    · have e : k = len := by omega
      subst e
      have hd := pr.done' hz
      go_wp2
      go_ret
      exact ⟨rfl, hd, pr.bel⟩

end Go.Proofs.Qxb6615576a
