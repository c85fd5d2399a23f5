/-
  THE WALKS of seat b6615561a: cloneInts, withoutInt.
-/
import Derived.Test.Qxb6615561aLeaf
namespace Go.Proofs.Qxb6615561a
open Go.RowKit

theorem Try.info3 : (Try.prog.info? 3).map (fun i => (i.zero, i.size, i.bytes)) = some (some (.int .i64 0), 1, 8) := by kernel_rfl
theorem Try.info4 : (Try.prog.info? 4).map (fun i => (i.zero, i.size, i.bytes)) = some (some (.bool false), 1, 1) := by kernel_rfl

/-- The slice v lies in memory from block B on, and holds the numbers zs. -/
def Own (w : World) (B : Nat) (v : Value) (zs : List Int) : Prop := w.ownsRow B 3 1 v zs.length (zs.map (Value.int .i64))

theorem Own.rd {w : World} {B : Nat} {v : Value} {zs : List Int} (h : Own w B v zs) (hl : zs.length ≤ 1048576) : Rd w v zs := by
  have h' := h
  rcases h.2 with ⟨rfl, h0⟩ | ⟨g, cap, cur, rfl, hb, hg, _⟩
  · have : zs = [] := List.length_eq_zero_iff.1 h0
    subst this
    exact ⟨none, 0, rfl, hl, .inl rfl⟩
  · refine ⟨_, cap, rfl, hl, .inr ⟨g, 0, rfl, (Array.getElem?_eq_some_iff.1 hg).1, fun k hk => ?_⟩⟩
    have := World.ownsRow.cellAt h' k (by omega)
    rw [Nat.zero_add, this]
    simp [hk]

theorem Own.below {w w' : World} {B C : Nat} {v : Value} {zs : List Int} (h : Own w B v zs) (hb : Below C w w') (hC : w.heap.size ≤ C) : Own w' B v zs := by
  refine ⟨h.1, ?_⟩
  rcases h.2 with h2 | ⟨g, cap, cur, hv, hg, hh, r⟩
  · exact .inl h2
  · refine .inr ⟨g, cap, cur, hv, hg, ?_, r⟩
    rw [hb.block g (Nat.lt_of_lt_of_le (Array.getElem?_eq_some_iff.1 hh).1 hC)]
    exact hh

theorem Own.mono {w : World} {B B' : Nat} {v : Value} {zs : List Int} (h : Own w B v zs) (hB : B' ≤ B) : Own w B' v zs := by
  refine ⟨h.1, ?_⟩
  rcases h.2 with h2 | ⟨g, cap, cur, hv, hg, r⟩
  · exact .inl h2
  · exact .inr ⟨g, cap, cur, hv, Nat.le_trans hB hg, r⟩

/-- What the clone holds after k rounds. -/
def half (zs : List Int) (k : Nat) : List Int := zs.take k ++ List.replicate (zs.length - k) 0
theorem half_len (zs : List Int) (k : Nat) (h : k ≤ zs.length) : (half zs k).length = zs.length := by simp [half]; omega
theorem half_all (zs : List Int) : half zs zs.length = zs := by simp [half]
theorem half_zero (zs : List Int) : half zs 0 = List.replicate zs.length 0 := by simp [half]
theorem half_step (zs : List Int) (k : Nat) (h : k < zs.length) : (half zs k).set k (zs.getD k 0) = half zs (k + 1) := by
  apply List.ext_getElem?
  intro j
  unfold half
  rw [List.getElem?_set]
  have hl : (zs.take k).length = k := by simp; omega
  have hl1 : (zs.take (k + 1)).length = k + 1 := by simp; omega
  by_cases e : k = j
  · subst e
    rw [if_pos rfl, if_pos (by simp; omega), List.getElem?_append_left (by omega), List.getElem?_take, if_pos (by omega)]
    simp [h]
  · rw [if_neg e]
    by_cases h1 : j < k
    · rw [List.getElem?_append_left (by omega), List.getElem?_append_left (by omega), List.getElem?_take, List.getElem?_take, if_pos h1, if_pos (by omega)]
    · rw [List.getElem?_append_right (by omega), List.getElem?_append_right (by omega), hl, hl1, List.getElem?_replicate, List.getElem?_replicate]
      by_cases h2 : j < zs.length
      · rw [if_pos (by omega), if_pos (by omega)]
      · rw [if_neg (by omega), if_neg (by omega)]

/-- What one round of the clone's loop keeps: the clone's row and the world below it. -/
def ClR (w : World) (len : Nat) (zs : List Int) (k : Nat) (wr : World) : Prop :=
  wr.ownsRow w.heap.size 3 1 (.slice (some ⟨w.heap.size, 0, none⟩) len len) len ((half zs k).map (Value.int .i64)) ∧ Below w.heap.size w wr

theorem ClR.start {w w1 : World} {len : Nat} {zs : List Int} (hz : zs.length = len) (h : w1.ownsRow w.heap.size 3 1 (.slice (some ⟨w.heap.size, 0, none⟩) len len) len (madeCells (Value.int .i64 0).cells (len * 1)).toList) (hg : w.grownBy w1 none) : ClR w len zs 0 w1 := by
  refine ⟨?_, (Below.refl _ _).grown hg (Nat.le_refl _) (by simp)⟩
  rw [half_zero, hz]
  have e : (madeCells (Value.int .i64 0).cells (len * 1)).toList = (List.replicate len (0 : Int)).map (Value.int .i64) := by
    rw [Nat.mul_one]; simpa [Value.cells] using toList_madeCells_one (.int .i64 0) len
  rw [← e]; exact h

theorem ClR.facts {w wr : World} {len : Nat} {zs : List Int} {k : Nat} (hz : zs.length = len) (h : ClR w len zs k wr) (hk : k < len) :
    (∃ z, wr.cell? ⟨w.heap.size, k, none⟩ = some (.int .i64 z)) ∧ wr.frozen? ⟨w.heap.size, k, none⟩ = false := by
  refine ⟨?_, h.1.frozenAt k⟩
  have hh := half_len zs k (by omega)
  rw [h.1.cellAt k (by omega)]
  refine ⟨(half zs k)[k]'(by omega), ?_⟩
  rw [List.getElem?_eq_getElem (by simp; omega)]; simp

theorem ClR.step {w wr : World} {len : Nat} {zs : List Int} {k : Nat} (hz : zs.length = len) (h : ClR w len zs k wr) (hk : k < len) {z : Int} (e : z = zs.getD k 0) : ClR w len zs (k + 1) (wr.setCell ⟨w.heap.size, k, none⟩ (.int .i64 z)) := by
  subst e
  refine ⟨?_, h.2.setCell (Nat.le_refl _) _⟩
  have := (h.1.stored k (.int .i64 (zs.getD k 0))).1
  rwa [← List.map_set, half_step zs k (by omega)] at this

theorem ClR.full {w wr : World} {len : Nat} {zs : List Int} (hz : zs.length = len) (h : ClR w len zs len wr) : Own wr w.heap.size (.slice (some ⟨w.heap.size, 0, none⟩) len len) zs := by
  have := h.1
  rw [← hz, half_all] at this
  rw [← hz]; exact this

set_option maxHeartbeats 400000 in
set_option maxRecDepth 100000 in
theorem clone_some (b off len cap : Nat) (zs : List Int) (w : World) (hl : len ≤ 1048576) (hz : zs.length = len) (hb : b < w.heap.size)
    (hc : ∀ k, k < len → w.cell? ⟨b, off + k, none⟩ = some (.int .i64 (zs.getD k 0))) :
    Calls Try.prog 17 #[.slice (some ⟨b, off, none⟩) len cap] w fun e w' => e = .returned (.slice (some ⟨w.heap.size, 0, none⟩) len len) ∧
      Own w' w.heap.size (.slice (some ⟨w.heap.size, 0, none⟩) len len) zs ∧ Below w.heap.size w w' := by
  obtain ⟨i0, hi, hz0, hz1, hz2⟩ := info_parts Try.info3
  have hnil := fun w : World => Lib.run_eql_slice_nil (P := Try.prog) w 37 3 (some ⟨b, off, none⟩) len cap 0 0 Try.underlying37
  go_enter Try.func17, Try.ntmps17
  go_wp2_with (at_make; refine wpList_make_full _ rfl (.tmp 8) (.tmp 8) 37 rfl w.heap.size 3 i0 (.int .i64 0) 1 Try.underlying37 hi hz0 hz1 .i64 .i64 (len : Int) (len : Int) len rfl rfl rfl rfl (by rw [hz2]; omega) (by unfold maxLen; omega) (Nat.le_refl _) ?_; intro w1 hown hgrow)
  have hst := ClR.start hz hown hgrow
  clear hown hgrow
  go_loopw [4] (fun i wr => ∃ k : Nat, k ≤ len ∧ i = .int .i64 k ∧ ClR w len zs k wr) (fun i _ => len - (intOf i).toNat)
  case atStart => exact ⟨0, Nat.zero_le _, rfl, hst⟩
  case round =>
    obtain ⟨k, hk, rfl, hr⟩ := hrel
    clear hst
    by_cases hlt : k < len
    · have hcell : wr.cell? ⟨b, off + k, none⟩ = some (.int .i64 (zs.getD k 0)) := (hr.2.cell (by exact hb)).trans (hc k hlt)
      obtain ⟨⟨z, hcl⟩, hfr⟩ := hr.facts hz hlt
      have hkz : k < zs.length := by omega
      go_wp2
      go_roundw
      case rel => exact ⟨k + 1, by omega, by go_num, hr.step hz hlt (by simp [hkz])⟩
      case measure => simp [intOf]; omega
    · go_wp2
      go_ret
      have e : k = len := by omega
      subst e
      exact ⟨rfl, hr.full hz, hr.2⟩

set_option maxHeartbeats 400000 in
theorem clone_nil (w : World) : Calls Try.prog 17 #[.slice none 0 0] w fun e w' => e = .returned (.slice none 0 0) ∧ w' = w := by
  have hnil := fun w : World => Lib.run_eql_slice_nil (P := Try.prog) w 37 3 none 0 0 0 0 Try.underlying37
  go_enter Try.func17, Try.ntmps17
  go_wp2
  go_ret
  exact ⟨rfl, rfl⟩

def wo (x : Int) (zs : List Int) : List Int := zs.filter (fun y => y != x)
theorem wo_le (x : Int) (zs : List Int) : (wo x zs).length ≤ zs.length := List.length_filter_le _ _
theorem wo_snoc (x : Int) (zs : List Int) (k : Nat) (h : k < zs.length) : wo x (zs.take (k + 1)) = if zs[k] == x then wo x (zs.take k) else wo x (zs.take k) ++ [zs[k]] := by
  rw [take_snoc' zs k h]
  unfold wo
  rw [List.filter_append]
  by_cases e : zs[k] = x <;> simp [e]

theorem own_snoc {wr w1 : World} {B : Nat} {v v' : Value} {xs : List Int} {z : Int} {o : Obj} {w : World} (hown : Own wr B v xs) (hB : B ≤ wr.heap.size) (hbel : Below B w wr)
    (h : w1.ownsRow B 3 1 v' (xs.length + 1) (xs.map (Value.int .i64) ++ [.int .i64 z])) (hg : (wr.alloc o).grownBy w1 v.ownBlock) : Own w1 B v' (xs ++ [z]) ∧ Below B w w1 := by
  refine ⟨?_, (hbel.alloc hB o).grown hg (by simp; omega) (fun k hk => (hown.lt k hk).1)⟩
  unfold Own
  rw [List.length_append, List.map_append]
  exact h

set_option maxHeartbeats 800000 in
set_option maxRecDepth 100000 in
theorem without_some (b off len cap : Nat) (zs : List Int) (x : Int) (w : World) (hl : len ≤ 1048576) (hz : zs.length = len) (hb : b < w.heap.size)
    (hc : ∀ k, k < len → w.cell? ⟨b, off + k, none⟩ = some (.int .i64 (zs.getD k 0))) :
    Calls Try.prog 19 #[.slice (some ⟨b, off, none⟩) len cap, .int .i64 x] w fun e w' => ∃ v, e = .returned v ∧ Own w' w.heap.size v (wo x zs) ∧ Below w.heap.size w w' := by
  obtain ⟨i0, hi, hz0, hz1, hz2⟩ := info_parts Try.info3
  go_enter Try.func19, Try.ntmps19
  go_wp2
  go_loopw [5, 6] (fun v i wr => ∃ k : Nat, k ≤ len ∧ i = .int .i64 k ∧ Own wr w.heap.size v (wo x (zs.take k)) ∧ Below w.heap.size w wr) (fun _ i _ => len - (intOf i).toNat)
  case atStart => exact ⟨0, Nat.zero_le _, rfl, World.ownsRow_nil _ _ _ _, Below.refl _ _⟩
  case round =>
    obtain ⟨k, hk, rfl, hown, hbel⟩ := hrel
    have hsz := hbel.size
    by_cases hlt : k < len
    · have hcell : wr.cell? ⟨b, off + k, none⟩ = some (.int .i64 (zs.getD k 0)) := (hbel.cell (by exact hb)).trans (hc k hlt)
      have hkz : k < zs.length := by omega
      have hwl := wo_le x (zs.take k)
      have htl : (zs.take k).length ≤ k := List.length_take_le _ _
      have hstep := wo_snoc x zs k hkz
      have HS : Hid (wo x (zs.take (k + 1)) = if zs[k] == x then wo x (zs.take k) else wo x (zs.take k) ++ [zs[k]]) := hstep
      clear hstep
      generalize hxs : wo x (zs.take k) = xs at *
      clear hxs
      go_wp2_with (at_builtin; refine wpList_append_own _ rfl (.tmp 19) (.tmp 24) 37 rfl w.heap.size 3 i0 (.int .i64 0) 1 8 Try.underlying37 hi hz0 hz1 hz2 rfl (by decide) _ _ _ rfl (World.ownsRow.alloc hown _) ⟨wr.heap.size, 0, none⟩ 1 1 [.int .i64 zs[k]] rfl rfl ?c1 ?c2 ?c3 ?c4 ?c5 ?_)
      case c1 => exact cell_one_new _ _ _
      case c2 => intro u hu; simp at hu; subst hu; rfl
      case c3 => unfold maxLen; omega
      case c4 => omega
      case c5 => simp; omega
      · intro v' w1 hown' hgrow _
        have h : (zs[k] != x) = true := by assumption
        have hR := own_snoc hown hsz hbel hown' hgrow
        have hne : (zs[k] == x) = false := by simpa using h
        clear hown' hgrow hown hcell
        go_wp2
        go_roundw
        case rel => exact ⟨k + 1, by omega, by go_num, by rw [HS.out, hne]; exact hR.1, hR.2⟩
        case measure => simp [intOf]; omega
      · have h : (zs[k] != x) = false := by assumption
        have hne : (zs[k] == x) = true := by simpa using h
        go_roundw
        case rel => exact ⟨k + 1, by omega, by go_num, by rw [HS.out, hne]; exact hown, hbel⟩
        case measure => simp [intOf]; omega
    · go_wp2
      go_ret
      have e : zs.take k = zs := List.take_of_length_le (by omega)
      rw [e] at hown
      exact ⟨_, rfl, hown, hbel⟩

set_option maxHeartbeats 400000 in
theorem without_none (a : Option Addr) (cap : Nat) (x : Int) (w : World) :
    Calls Try.prog 19 #[.slice a 0 cap, .int .i64 x] w fun e w' => e = .returned (.slice none 0 0) ∧ w' = w := by
  go_enter Try.func19, Try.ntmps19
  go_wp2
  refine wp_loop_rounds 1 ?_
  rw [rounds_succ]
  go_wp2
  go_ret
  exact ⟨rfl, rfl⟩

/-- withoutInt -/
theorem without_any {v : Value} {zs : List Int} {w : World} (x : Int) (h : Rd w v zs) :
    Calls Try.prog 19 #[v, .int .i64 x] w fun e w' => ∃ v', e = .returned v' ∧ Own w' w.heap.size v' (wo x zs) ∧ Below w.heap.size w w' := by
  obtain ⟨a, cap, rfl, hl, h⟩ := h
  rcases h with rfl | ⟨b, off, rfl, hb, hc⟩
  · refine (without_none a cap x w).mono fun e w' ⟨he, hw⟩ => ?_
    subst hw
    exact ⟨_, he, World.ownsRow_nil _ _ _ _, Below.refl _ _⟩
  · exact without_some b off zs.length cap zs x w hl rfl hb hc

end Go.Proofs.Qxb6615561a
