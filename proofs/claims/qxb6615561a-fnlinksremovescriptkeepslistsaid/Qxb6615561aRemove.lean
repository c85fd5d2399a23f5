/-
  THE WALK of seat b6615561a: (links).remove, ZZlinksRemove.
-/
import Derived.Test.Qxb6615561aClone
namespace Go.Proofs.Qxb6615561a
open Go.RowKit

/-- Block b holds the numbers zs, and nothing else. -/
def Ints (w : World) (b : Nat) (zs : List Int) : Prop := w.heap[b]? = some (.cells (zs.map (Value.int .i64)).toArray 3 (0, 0))

theorem Ints.lt {w : World} {b : Nat} {zs : List Int} (h : Ints w b zs) : b < w.heap.size := (Array.getElem?_eq_some_iff.1 h).1
theorem Ints.cell {w : World} {b : Nat} {zs : List Int} (h : Ints w b zs) {k : Nat} (hk : k < zs.length) : w.cell? ⟨b, k, none⟩ = some (.int .i64 (zs.getD k 0)) := by
  rw [cell_of_row w b k _ 3 (0, 0) h]
  simp [hk]
theorem Ints.free {w : World} {b : Nat} {zs : List Int} (h : Ints w b zs) (k : Nat) : w.frozen? ⟨b, k, none⟩ = false := frozen_of_row w b k _ 3 h
theorem Ints.rd {w : World} {b : Nat} {zs : List Int} (h : Ints w b zs) {m : Nat} (hm : zs.length = m) (hl : m ≤ 1048576) : Rd w (.slice (some ⟨b, 0, none⟩) m m) zs := by
  subst hm
  exact ⟨_, _, rfl, hl, .inr ⟨b, 0, rfl, h.lt, fun k hk => by rw [Nat.zero_add]; exact h.cell hk⟩⟩
theorem Ints.same {w w' : World} {b : Nat} {zs : List Int} (h : Ints w b zs) (e : w'.heap[b]? = w.heap[b]?) : Ints w' b zs := e.trans h
theorem Ints.below {w w' : World} {b B : Nat} {zs : List Int} (h : Ints w b zs) (hb : Below B w w') (hB : b < B) : Ints w' b zs := h.same (hb.block b hB)
theorem Ints.set {w : World} {b : Nat} {zs : List Int} (h : Ints w b zs) (k : Nat) (z : Int) : Ints (w.setCell ⟨b, k, none⟩ (.int .i64 z)) b (zs.set k z) := by
  unfold Ints
  rw [heap_setCell_same w b k _ 3 (.int .i64 z) h, List.map_set]
  simp
theorem Ints.setOther {w : World} {b : Nat} {zs : List Int} (h : Ints w b zs) {a : Addr} (hne : b ≠ a.block) (u : Value) : Ints (w.setCell a u) b zs := h.same (Below.heap_setCell w a u b hne)
theorem Ints.alloc {w : World} {b : Nat} {zs : List Int} (h : Ints w b zs) (o : Obj) : Ints (w.alloc o) b zs := h.same (Below.heap_alloc w o b h.lt)

theorem Own.ints {w : World} {B g m : Nat} {zs : List Int} (h : Own w B (.slice (some ⟨g, 0, none⟩) m m) zs) (hm : zs.length = m) : Ints w g zs := by
  rcases h.2 with ⟨h', _⟩ | ⟨g', cap, cur, hv, _, hg, _, _, hs, ht⟩
  · simp at h'
  · simp only [Value.slice.injEq, Option.some.injEq, Addr.mk.injEq, and_true] at hv
    obtain ⟨rfl, _, rfl⟩ := hv
    unfold Ints
    rw [hg]
    have : cur = (zs.map (Value.int .i64)).toArray := by
      rw [← ht, hm, List.take_of_length_le (by simp; omega)]
    rw [this]

/-- cloneInts of a slice that is not empty -/
theorem clone_any {v : Value} {zs : List Int} {w : World} (h : Rd w v zs) (hne : zs ≠ []) {m : Nat} (hm : zs.length = m) :
    Calls Try.prog 17 #[v] w fun e w' => ∃ b, e = .returned (.slice (some ⟨b, 0, none⟩) m m) ∧ Ints w' b zs ∧ w.heap.size ≤ b ∧ Below w.heap.size w w' := by
  obtain ⟨a, cap, rfl, hl, h⟩ := h
  rcases h with rfl | ⟨b, off, rfl, hb, hc⟩
  · exact absurd rfl hne
  · subst hm
    exact (clone_some b off zs.length cap zs w hl rfl hb hc).mono fun e w' ⟨he, ho, hb⟩ => ⟨_, he, ho.ints rfl, Nat.le_refl _, hb⟩

/-- All blocks but two are as they were. -/
structure Keep (bn bp : Nat) (w w' : World) : Prop where
  os : w'.os = w.os
  tape : w'.tape = w.tape
  output : w'.output = w.output
  size : w.heap.size ≤ w'.heap.size
  block : ∀ k, k < w.heap.size → k ≠ bn → k ≠ bp → w'.heap[k]? = w.heap[k]?
theorem Keep.below {bn bp : Nat} {w w' : World} (h : Keep bn bp w w') {B : Nat} (h1 : B ≤ bn) (h2 : B ≤ bp) (h3 : B ≤ w.heap.size) : Below B w w' :=
  ⟨h.os, h.tape, h.output, h.size, fun k hk => h.block k (by omega) (by omega) (by omega)⟩
theorem Ints.keep {w w' : World} {b bn bp : Nat} {zs : List Int} (h : Ints w b zs) (hk : Keep bn bp w w') (h1 : b ≠ bn) (h2 : b ≠ bp) : Ints w' b zs := h.same (hk.block b h.lt h1 h2)

set_option maxHeartbeats 800000 in
set_option maxRecDepth 100000 in
theorem remove_core (bn bp len : Nat) (i p n : Nat) (w : World)
    (hbn : bn < w.heap.size) (hbp : bp < w.heap.size) (hne : bn ≠ bp) (hi : i < len) (hp : p < len) (hn : n < len) (hpi : p ≠ i)
    (cp : w.cell? ⟨bp, i, none⟩ = some (.int .i64 p)) (cn : w.cell? ⟨bn, i, none⟩ = some (.int .i64 n))
    (cnp : ∃ z, w.cell? ⟨bn, p, none⟩ = some (.int .i64 z)) (cpn : ∃ z, w.cell? ⟨bp, n, none⟩ = some (.int .i64 z))
    (fn : w.frozen? ⟨bn, p, none⟩ = false) (fp : w.frozen? ⟨bp, n, none⟩ = false) :
    Calls Try.prog 39 #[.agg #[.slice (some ⟨bn, 0, none⟩) len len, .slice (some ⟨bp, 0, none⟩) len len], .int .i64 i] w fun e w' => e = .returned (.tuple #[]) ∧ ∃ o : Obj, 
      ∃ q, w' = (((w.setCell ⟨bn, p, none⟩ (.int .i64 n)).setCell ⟨bp, n, none⟩ (.int .i64 p)).alloc o).drewN q := by
  obtain ⟨z1, cnp⟩ := cnp
  obtain ⟨z2, cpn⟩ := cpn
  have hI : (i : Int) < (len : Int) := by omega
  have hI0 : (0 : Int) ≤ (i : Int) := by omega
  have hP : (p : Int) < (len : Int) := by omega
  have hP0 : (0 : Int) ≤ (p : Int) := by omega
  have hN : (n : Int) < (len : Int) := by omega
  have hN0 : (0 : Int) ≤ (n : Int) := by omega
  go_enter Try.func39, Try.ntmps39
  go_wp2
  go_region
  all_goals go_wp2
  all_goals go_region
  all_goals go_end0
  all_goals exact ⟨rfl, _, 2, rfl⟩

set_option maxHeartbeats 400000 in
theorem remove18 (bn bp len : Nat) (i p n : Nat) (w : World)
    (hbn : bn < w.heap.size) (hbp : bp < w.heap.size) (hne : bn ≠ bp) (hi : i < len) (hp : p < len) (hn : n < len) (hpi : p ≠ i)
    (cp : w.cell? ⟨bp, i, none⟩ = some (.int .i64 p)) (cn : w.cell? ⟨bn, i, none⟩ = some (.int .i64 n))
    (cnp : ∃ z, w.cell? ⟨bn, p, none⟩ = some (.int .i64 z)) (cpn : ∃ z, w.cell? ⟨bp, n, none⟩ = some (.int .i64 z))
    (fn : w.frozen? ⟨bn, p, none⟩ = false) (fp : w.frozen? ⟨bp, n, none⟩ = false) :
    Calls Try.prog 18 #[.slice (some ⟨bn, 0, none⟩) len len, .slice (some ⟨bp, 0, none⟩) len len, .int .i64 i] w fun e w' => e = .returned (.tuple #[]) ∧ ∃ o : Obj, 
      ∃ q, w' = (((w.setCell ⟨bn, p, none⟩ (.int .i64 n)).setCell ⟨bp, n, none⟩ (.int .i64 p)).alloc o).drewN q := by
  have hc := remove_core bn bp len i p n w hbn hbp hne hi hp hn hpi cp cn cnp cpn fn fp
  have HC : Hid _ := hc
  clear hc cp cn cnp cpn fn fp
  go_enter Try.func18, Try.ntmps18
  go_wp2_with fail
  refine Calls.mono (HC.out) ?_
  rintro e w' ⟨rfl, o, q, rfl⟩
  go_wp2
  go_end0
  exact ⟨rfl, o, q, rfl⟩

/-- ZZlinksRemove, by what it stores -/
theorem remove_any {bn bp m : Nat} {nx pv : List Int} {i : Int} {w : World} (hn : Ints w bn nx) (hp : Ints w bp pv) (ln : nx.length = m) (lp : pv.length = m) (hne : bn ≠ bp)
    (inI : Ring.InR m i) (inP : Ring.InR m (Ring.g pv i)) (inN : Ring.InR m (Ring.g nx i)) (hpi : Ring.g pv i ≠ i) :
    Calls Try.prog 18 #[.slice (some ⟨bn, 0, none⟩) m m, .slice (some ⟨bp, 0, none⟩) m m, .int .i64 i] w fun e w' => e = .returned (.tuple #[]) ∧
      Ints w' bn (Ring.rn nx pv i) ∧ Ints w' bp (Ring.rp nx pv i) ∧ Keep bn bp w w' := by
  unfold Ring.InR at inI inP inN
  obtain ⟨i', rfl⟩ := Int.eq_ofNat_of_zero_le inI.1
  obtain ⟨p', ep⟩ := Int.eq_ofNat_of_zero_le inP.1
  obtain ⟨n', en⟩ := Int.eq_ofNat_of_zero_le inN.1
  have e1 : pv.getD i' 0 = (p' : Int) := by rw [← ep]; simp [Ring.g]
  have e2 : nx.getD i' 0 = (n' : Int) := by rw [← en]; simp [Ring.g]
  refine (remove18 bn bp m i' p' n' w hn.lt hp.lt hne (by omega) (by omega) (by omega) (by omega) (by rw [hp.cell (by omega), e1]) (by rw [hn.cell (by omega), e2]) ⟨_, hn.cell (by omega)⟩ ⟨_, hp.cell (by omega)⟩ (hn.free _) (hp.free _)).mono ?_
  rintro e w' ⟨he, o, q, rfl⟩
  refine ⟨he, ?_, ?_, ?_⟩
  · have h1 := ((hn.set p' n').setOther (a := ⟨bp, n', none⟩) hne (.int .i64 p')).alloc o
    unfold Ring.rn
    rw [ep, en, Int.toNat_natCast]
    exact h1
  · have h1 := ((hp.setOther (a := ⟨bn, p', none⟩) hne.symm (.int .i64 n')).set n' p').alloc o
    unfold Ring.rp
    rw [ep, en, Int.toNat_natCast]
    exact h1
  · refine ⟨rfl, rfl, rfl, by simp [World.drewN], fun k hk k1 k2 => ?_⟩
    show (((w.setCell ⟨bn, p', none⟩ (.int .i64 n')).setCell ⟨bp, n', none⟩ (.int .i64 p')).alloc o).heap[k]? = _
    rw [Below.heap_alloc _ _ _ (by simpa using hk), Below.heap_setCell _ _ _ _ k2, Below.heap_setCell _ _ _ _ k1]

end Go.Proofs.Qxb6615561a
