/-
  THE WALK of seat b6615561a: linksWalk.
-/
import Derived.Test.Qxb6615561aRemove
namespace Go.Proofs.Qxb6615561a
open Go.RowKit

/-- What 'seen' holds when wk has been met. -/
def seenL (m : Nat) (wk : List Int) : List Bool := (List.range m).map (fun y : Nat => decide ((y : Int) ∈ wk))

theorem seenL_len (m : Nat) (wk : List Int) : (seenL m wk).length = m := by simp [seenL]
theorem seenL_nil (m : Nat) : seenL m [] = List.replicate m false := by
  apply List.ext_getElem?
  intro j
  by_cases h : j < m <;> simp [seenL, h]
theorem seenL_set (m : Nat) (wk : List Int) (x : Nat) (_hx : x < m) : (seenL m wk).set x true = seenL m (wk ++ [(x : Int)]) := by
  apply List.ext_getElem?
  intro j
  rw [List.getElem?_set]
  by_cases e : x = j
  · subst e; rw [if_pos rfl, if_pos (by simp [seenL]; omega)]
    simp [seenL, _hx]
  · rw [if_neg e]
    by_cases h : j < m
    · simp [seenL, h]
      intro h'; omega
    · simp [seenL, h]

/-- What a round of the walk keeps: 'seen' at block B, the walk behind it. -/
structure LkR (w : World) (m : Nat) (k : Nat) (wk : List Int) (v : Value) (wr : World) : Prop where
  seen : wr.ownsRow w.heap.size 4 1 (.slice (some ⟨w.heap.size, 0, none⟩) m m) m ((seenL m wk).map Value.bool)
  own : Own wr (w.heap.size + 1) v wk
  bel : Below w.heap.size w wr
  len : wk.length ≤ k
  nil : wk = [] → v = .slice none 0 0

theorem LkR.big {w wr : World} {m k : Nat} {wk : List Int} {v : Value} (h : LkR w m k wk v wr) : w.heap.size < wr.heap.size := (h.seen.lt w.heap.size rfl).2

theorem LkR.start {w w1 : World} {m : Nat} (h : w1.ownsRow w.heap.size 4 1 (.slice (some ⟨w.heap.size, 0, none⟩) m m) m (madeCells (Value.bool false).cells (m * 1)).toList) (hg : w.grownBy w1 none) : LkR w m 0 [] (.slice none 0 0) w1 := by
  refine ⟨?_, World.ownsRow_nil _ _ _ _, (Below.refl _ _).grown hg (Nat.le_refl _) (by simp), Nat.le_refl _, fun _ => rfl⟩
  rw [seenL_nil]
  have e : (madeCells (Value.bool false).cells (m * 1)).toList = (List.replicate m false).map Value.bool := by
    rw [Nat.mul_one]; simpa [Value.cells] using toList_madeCells_one (.bool false) m
  rw [← e]; exact h

theorem LkR.facts {w wr : World} {m k : Nat} {wk : List Int} {v : Value} (h : LkR w m k wk v wr) {x : Nat} (hx : x < m) :
    wr.cell? ⟨w.heap.size, x, none⟩ = some (.bool (decide ((x : Int) ∈ wk))) ∧ wr.frozen? ⟨w.heap.size, x, none⟩ = false := by
  refine ⟨?_, h.seen.frozenAt x⟩
  rw [h.seen.cellAt x (by omega)]
  simp [seenL, hx]

theorem LkR.marked {w wr : World} {m k : Nat} {wk : List Int} {v : Value} (h : LkR w m k wk v wr) {x : Nat} (hx : x < m) :
    (wr.setCell ⟨w.heap.size, x, none⟩ (.bool true)).ownsRow w.heap.size 4 1 (.slice (some ⟨w.heap.size, 0, none⟩) m m) m ((seenL m (wk ++ [(x : Int)])).map Value.bool) ∧
    Own (wr.setCell ⟨w.heap.size, x, none⟩ (.bool true)) (w.heap.size + 1) v wk := by
  refine ⟨?_, ownsRow_setCell_below h.own (by simp) _⟩
  have := (h.seen.stored x (.bool true)).1
  rwa [← List.map_set, seenL_set m wk x hx] at this

theorem LkR.step {w wr w1 : World} {m k : Nat} {wk : List Int} {v v' : Value} (h : LkR w m k wk v wr) {x : Nat} (hx : x < m) {o : Obj}
    (hown : w1.ownsRow (w.heap.size + 1) 3 1 v' (wk.length + 1) (wk.map (Value.int .i64) ++ [.int .i64 x]))
    (hg : ((wr.setCell ⟨w.heap.size, x, none⟩ (.bool true)).alloc o).grownBy w1 v.ownBlock) : LkR w m (k + 1) (wk ++ [(x : Int)]) v' w1 := by
  have hm := h.marked hx
  have hb := h.big
  refine ⟨?_, ?_, ((h.bel.setCell (Nat.le_refl _) _).alloc (by simp; omega) o).grown hg (by simp; omega) (fun j hj => by have := (h.own.lt j hj).1; omega), by have := h.len; simp; omega, by simp⟩
  · refine (hm.1.alloc o).kept hg ?_
    right
    intro e
    have := (h.own.lt w.heap.size (by rw [← e]; rfl)).1
    omega
  · unfold Own
    rw [List.length_append, List.map_append]
    exact hown

theorem lw_succ (nx pv : List Int) (s : Int) (f : Nat) (cur : Int) (wk : List Int) : Ring.lw nx pv s (f + 1) cur wk =
    if Ring.g nx cur < 0 ∨ (nx.length : Int) ≤ Ring.g nx cur then none
    else if Ring.g pv (Ring.g nx cur) ≠ cur then none
    else if Ring.g nx cur = s then some wk
    else if Ring.g nx cur ∈ wk then none
    else Ring.lw nx pv s f (Ring.g nx cur) (wk ++ [Ring.g nx cur]) := rfl
theorem lw_zero (nx pv : List Int) (s c : Int) (wk : List Int) : Ring.lw nx pv s 0 c wk = none := rfl
theorem lw_out {nx pv : List Int} {s : Int} {m k c : Nat} {wk : List Int} (hk : k < m) (h : nx.getD c 0 < 0 ∨ (nx.length : Int) ≤ nx.getD c 0) : Ring.lw nx pv s (m - k) (c : Int) wk = none := by
  obtain ⟨f, hf⟩ : ∃ f, m - k = f + 1 := ⟨m - k - 1, by omega⟩
  rw [hf]; unfold Ring.lw
  rw [if_pos (by simpa [Ring.g] using h)]
theorem lw_in {nx pv : List Int} {s : Int} {m k c x : Nat} {wk : List Int} (hk : k < m) (hx : nx.getD c 0 = (x : Int)) (hl : x < nx.length) :
    Ring.lw nx pv s (m - k) (c : Int) wk = if pv.getD x 0 ≠ (c : Int) then none else if (x : Int) = s then some wk else if (x : Int) ∈ wk then none else Ring.lw nx pv s (m - (k + 1)) (x : Int) (wk ++ [(x : Int)]) := by
  obtain ⟨f, hf⟩ : ∃ f, m - k = f + 1 := ⟨m - k - 1, by omega⟩
  have hf' : m - (k + 1) = f := by omega
  have e : Ring.g nx (c : Int) = (x : Int) := by simpa [Ring.g] using hx
  rw [hf, hf', lw_succ, e, if_neg (by omega)]
  simp [Ring.g]

set_option maxHeartbeats 1000000 in
set_option maxRecDepth 100000 in
theorem walk_some (b off cap b' off' cap' m : Nat) (nx pv : List Int) (w : World) (hl : m ≤ 1048576) (h1 : 1 ≤ m) (hzn : nx.length = m) (hzp : pv.length = m) (hb : b < w.heap.size) (hb' : b' < w.heap.size)
    (hc : ∀ k, k < m → w.cell? ⟨b, off + k, none⟩ = some (.int .i64 (nx.getD k 0))) (hc' : ∀ k, k < m → w.cell? ⟨b', off' + k, none⟩ = some (.int .i64 (pv.getD k 0)))
    (R : Option (List Int)) (hR : Ring.lw nx pv ((m : Int) - 1) m ((m : Int) - 1) [] = R) :
    Calls Try.prog 15 #[.slice (some ⟨b, off, none⟩) m cap, .slice (some ⟨b', off', none⟩) m cap'] w fun e w' => ∃ v, e = .returned (.tuple #[v, .bool R.isSome]) ∧
      Own w' w.heap.size v (R.getD []) ∧ (R.getD [] = [] → v = .slice none 0 0) ∧ (R.getD []).length ≤ m ∧ Below w.heap.size w w' := by
  obtain ⟨i3, hi3, hz30, hz31, hz32⟩ := info_parts Try.info3
  obtain ⟨i4, hi4, hz40, hz41, hz42⟩ := info_parts Try.info4
  have es : ((m : Int) - 1) = ((m - 1 : Nat) : Int) := by omega
  have HR : Hid (Ring.lw nx pv ((m : Int) - 1) m ((m : Int) - 1) [] = R) := hR
  have HS : Hid (((m : Int) - 1) = ((m - 1 : Nat) : Int)) := es
  clear hR es
  go_enter Try.func15, Try.ntmps15
  go_wp2_with (at_make; refine wpList_make_full _ rfl (.tmp 17) (.tmp 17) 46 rfl w.heap.size 4 i4 (.bool false) 1 Try.underlying46 hi4 hz40 hz41 .i64 .i64 (m : Int) (m : Int) m rfl rfl rfl rfl (by rw [hz42]; omega) (by unfold maxLen; omega) (Nat.le_refl _) ?_; intro w1 hown hgrow)
  have hst := LkR.start hown hgrow
  clear hown hgrow
  go_loopw [9, 10, 11] (fun v c i wr => ∃ (k c' : Nat) (wk : List Int), k ≤ m ∧ c' < m ∧ i = .int .i64 k ∧ c = .int .i64 c' ∧ LkR w m k wk v wr ∧ Hid (Ring.lw nx pv ((m : Int) - 1) (m - k) (c' : Int) wk = R)) (fun _ _ i _ => m - (intOf i).toNat)
  case atStart => exact ⟨0, m - 1, [], Nat.zero_le _, by omega, rfl, by rw [HS.out], hst, by rw [Nat.sub_zero, ← HS.out]; exact HR.out⟩
  case round =>
    obtain ⟨k, c, wk, hk, hcm, rfl, rfl, hr, HL⟩ := hrel
    clear hst
    by_cases hlt : k < m
    · have hcell : wr.cell? ⟨b, off + c, none⟩ = some (.int .i64 (nx.getD c 0)) := (hr.bel.cell (by exact hb)).trans (hc c hcm)
      obtain ⟨x, hx⟩ : ∃ x, nx.getD c 0 = x := ⟨_, rfl⟩
      rw [hx] at hcell
      have HX : Hid (nx.getD c 0 = x) := hx
      clear hx
      by_cases hx0 : x < 0
      · have HN : Hid (R = none) := by rw [← HL.out]; exact lw_out hlt (.inl (by rw [HX.out]; exact hx0))
        go_wp2
        go_ret2
        rw [HN.out]
        exact ⟨_, rfl, World.ownsRow_nil _ _ _ _, fun _ => rfl, Nat.zero_le _, hr.bel⟩
      obtain ⟨y, rfl⟩ := Int.eq_ofNat_of_zero_le (Int.not_lt.1 hx0)
      by_cases hym : y < m
      · have hcell' : wr.cell? ⟨b', off' + y, none⟩ = some (.int .i64 (pv.getD y 0)) := (hr.bel.cell (by exact hb')).trans (hc' y hym)
        have HI : Hid (R = _) := HL.out.symm.trans (lw_in hlt HX.out (by omega))
        obtain ⟨z, hz⟩ : ∃ z, pv.getD y 0 = z := ⟨_, rfl⟩
        rw [hz] at hcell' HI
        clear hz HL HX
        by_cases hzc : z = (c : Int)
        · subst hzc
          have HJ : Hid (R = if (y : Int) = (m : Int) - 1 then some wk else if (y : Int) ∈ wk then none else Ring.lw nx pv ((m : Int) - 1) (m - (k + 1)) (y : Int) (wk ++ [(y : Int)])) := by
            have := HI.out; rwa [if_neg (by simp)] at this
          clear HI
          by_cases hys : (y : Int) = (m : Int) - 1
          · have HN : Hid (R = some wk) := by have := HJ.out; rwa [if_pos hys] at this
            have hb1 : ((y : Int) == (m : Int) - 1) = true := beq_iff_eq.2 hys
            clear hys HJ
            go_wp2
            go_ret2
            rw [HN.out]
            exact ⟨_, rfl, hr.own.mono (by omega), hr.nil, by have := hr.len; simp; omega, hr.bel⟩
          · have hb1 : ((y : Int) == (m : Int) - 1) = false := beq_eq_false_iff_ne.2 hys
            obtain ⟨hse, hfr⟩ := hr.facts hym
            by_cases hmem : (y : Int) ∈ wk
            · have HN : Hid (R = none) := by have := HJ.out; rwa [if_neg hys, if_pos hmem] at this
              rw [decide_eq_true hmem] at hse
              clear hys HJ hmem
              go_wp2
              go_ret2
              rw [HN.out]
              exact ⟨_, rfl, World.ownsRow_nil _ _ _ _, fun _ => rfl, Nat.zero_le _, hr.bel⟩
            · have HN : Hid (R = Ring.lw nx pv ((m : Int) - 1) (m - (k + 1)) (y : Int) (wk ++ [(y : Int)])) := by have := HJ.out; rwa [if_neg hys, if_neg hmem] at this
              rw [decide_eq_false hmem] at hse
              have hmk := (hr.marked hym).2
              have hbig := hr.big
              have hlen := hr.len
              clear hys HJ hmem
              go_wp2_with (at_builtin; refine wpList_append_own _ rfl (.tmp 53) (.tmp 55) 37 rfl (w.heap.size + 1) 3 i3 (.int .i64 0) 1 8 Try.underlying37 hi3 hz30 hz31 hz32 rfl (by decide) _ _ _ rfl (World.ownsRow.alloc hmk _) ⟨wr.heap.size, 0, none⟩ 1 1 [.int .i64 y] rfl rfl ?c1 ?c2 ?c3 ?c4 ?c5 ?_)
              case c2 => rfl
              case c3 => unfold maxLen; omega
              case c4 => omega
              case c5 => omega
              intro v' w2 hown' hgrow _
              have hR2 := hr.step hym hown' hgrow
              clear hown' hgrow hcell hcell'
              go_wp2
              go_roundw
              case rel => exact ⟨k + 1, y, _, by omega, hym, by go_num, rfl, hR2, HN.out.symm⟩
              case measure => simp [intOf]; omega
        · have HN : Hid (R = none) := by have := HI.out; rwa [if_pos hzc] at this
          have hb1 : (z != (c : Int)) = true := by rw [bne_iff_ne]; exact hzc
          clear hzc HI
          go_wp2
          go_ret2
          rw [HN.out]
          exact ⟨_, rfl, World.ownsRow_nil _ _ _ _, fun _ => rfl, Nat.zero_le _, hr.bel⟩
      · have HN : Hid (R = none) := by rw [← HL.out]; exact lw_out hlt (.inr (by rw [HX.out]; omega))
        go_wp2
        go_ret2
        rw [HN.out]
        exact ⟨_, rfl, World.ownsRow_nil _ _ _ _, fun _ => rfl, Nat.zero_le _, hr.bel⟩
    · have HN : Hid (R = none) := by
        have : m - k = 0 := by omega
        rw [← HL.out, this]; rfl
      go_wp2
      go_ret2
      rw [HN.out]
      exact ⟨_, rfl, World.ownsRow_nil _ _ _ _, fun _ => rfl, Nat.zero_le _, hr.bel⟩

theorem contains_at {v : Value} {zs : List Int} {w : World} (x : Int) (r : Bool) (h : Rd w v zs) (hr : decide (x ∈ zs) = r) :
    Calls Try.prog 16 #[v, .int .i64 x] w fun e w' => e = .returned (.bool r) ∧ w = w' :=
  (contains_any x h).mono fun _ _ ⟨he, hw⟩ => ⟨by rw [he, hr], hw.symm⟩

theorem remove_at {bn bp m : Nat} {nx pv wk nx' pv' : List Int} {i : Int} {w : World} (hn : Ints w bn nx) (hp : Ints w bp pv) (hne : bn ≠ bp) (hg : Ring.Good m nx pv wk) (hi : i ∈ wk) (hN : Ring.rn nx pv i = nx') (hP : Ring.rp nx pv i = pv') :
    Calls Try.prog 18 #[.slice (some ⟨bn, 0, none⟩) m m, .slice (some ⟨bp, 0, none⟩) m m, .int .i64 i] w fun e w' => e = .returned (.tuple #[]) ∧ Ints w' bn nx' ∧ Ints w' bp pv' ∧ Keep bn bp w w' := by
  have k := Ring.near hg hi
  subst hN hP
  exact remove_any hn hp hg.ln hg.lp hne k.inI k.inP k.inN k.ne

theorem Rd.below {w w' : World} {v : Value} {zs : List Int} (h : Rd w v zs) {B : Nat} (hb : Below B w w') (hB : w.heap.size ≤ B) : Rd w' v zs := by
  obtain ⟨a, cap, rfl, hl, h⟩ := h
  refine ⟨a, cap, rfl, hl, ?_⟩
  rcases h with h | ⟨b, off, rfl, hlt, hc⟩
  · exact .inl h
  · exact .inr ⟨b, off, rfl, by have := hb.size; omega, fun k hk => by rw [hb.cell (p := ⟨b, off + k, none⟩) (by exact Nat.lt_of_lt_of_le hlt hB)]; exact hc k hk⟩

theorem Rd.same {w w' : World} {v : Value} {zs : List Int} (h : Rd w v zs) (hb : w'.heap = w.heap) : Rd w' v zs := by
  obtain ⟨a, cap, rfl, hl, h⟩ := h
  refine ⟨a, cap, rfl, hl, ?_⟩
  rcases h with h | ⟨b, off, rfl, hlt, hc⟩
  · exact .inl h
  · exact .inr ⟨b, off, rfl, by rw [hb]; exact hlt, fun k hk => by rw [World.cell?_of_block (w := w) (by rw [hb])]; exact hc k hk⟩

/-- linksWalk -/
theorem walk_any {vn vp : Value} {nx pv : List Int} {w : World} {m : Nat} (hn : Rd w vn nx) (hp : Rd w vp pv) (ln : nx.length = m) (lp : pv.length = m) (h1 : 1 ≤ m) {R : Option (List Int)} (hR : Ring.lw nx pv ((m : Int) - 1) m ((m : Int) - 1) [] = R) :
    Calls Try.prog 15 #[vn, vp] w fun e w' => ∃ v, e = .returned (.tuple #[v, .bool R.isSome]) ∧
      Own w' w.heap.size v (R.getD []) ∧ (R.getD [] = [] → v = .slice none 0 0) ∧ (R.getD []).length ≤ m ∧ Below w.heap.size w w' := by
  obtain ⟨a, cap, rfl, hl, h⟩ := hn
  obtain ⟨a', cap', rfl, hl', h'⟩ := hp
  rcases h with rfl | ⟨b, off, rfl, hb, hc⟩
  · simp at ln; omega
  rcases h' with rfl | ⟨b', off', rfl, hb', hc'⟩
  · simp at lp; omega
  rw [ln] at hl hc ⊢
  rw [lp] at hc' ⊢
  exact walk_some b off cap b' off' cap' m nx pv w hl h1 ln lp hb hb' hc hc' R hR

/-- linksWalk over a ring that is well formed and not empty -/
theorem walk_full {vn vp : Value} {nx pv wk : List Int} {w : World} {m : Nat} (hn : Rd w vn nx) (hp : Rd w vp pv) (hm : m ≤ 1048576) (h1 : 1 ≤ m) (hg : Ring.Good m nx pv wk) (hne : wk ≠ []) :
    Calls Try.prog 15 #[vn, vp] w fun e w' => ∃ g cap, e = .returned (.tuple #[.slice (some ⟨g, 0, none⟩) wk.length cap, .bool true]) ∧ g < w'.heap.size ∧
      (∀ k, k < wk.length → w'.cell? ⟨g, k, none⟩ = some (.int .i64 (wk.getD k 0))) ∧ Below w.heap.size w w' := by
  refine (walk_any hn hp hg.ln hg.lp h1 (Ring.of_good hg)).mono ?_
  rintro e w' ⟨v, rfl, ho, _, hl, hb⟩
  simp only [Option.getD_some, Option.isSome_some] at ho hl ⊢
  have hr := ho.rd (by omega)
  obtain ⟨_, _, _, _, h⟩ := hr
  rcases ho.2 with ⟨_, h0⟩ | ⟨g, cap, cur, rfl, _, hh, _⟩
  · exact absurd (List.length_eq_zero_iff.1 h0) hne
  · refine ⟨g, cap, rfl, (Array.getElem?_eq_some_iff.1 hh).1, fun k hk => ?_, hb⟩
    rw [World.ownsRow.cellAt ho k (by omega)]
    simp [hk]

theorem equal_at {v v' : Value} {zs : List Int} {w : World} (h : Rd w v zs) (h' : Rd w v' zs) :
    Calls Try.prog 20 #[v, v'] w fun e w' => e = .returned (.bool true) ∧ Below w.heap.size w w' :=
  (equal_any h h').mono fun _ _ ⟨he, n, hw⟩ => ⟨he, by subst hw; exact below_drewN (Below.refl _ _) n⟩

/-- The marks of 'on', at the block that was made in the world w: those of L. -/
def OnR (w : World) (m : Nat) (L : List Int) (wr : World) : Prop :=
  wr.ownsRow w.heap.size 4 1 (.slice (some ⟨w.heap.size, 0, none⟩) m m) m ((seenL m L).map Value.bool) ∧ Below w.heap.size w wr

theorem OnR.start {w w1 : World} {m : Nat} (h : w1.ownsRow w.heap.size 4 1 (.slice (some ⟨w.heap.size, 0, none⟩) m m) m (madeCells (Value.bool false).cells (m * 1)).toList) (hg : w.grownBy w1 none) : OnR w m [] w1 :=
  ⟨(LkR.start h hg).seen, (LkR.start h hg).bel⟩
theorem OnR.facts {w wr : World} {m : Nat} {L : List Int} (h : OnR w m L wr) {x : Nat} (hx : x < m) :
    wr.cell? ⟨w.heap.size, x, none⟩ = some (.bool (decide ((x : Int) ∈ L))) ∧ wr.frozen? ⟨w.heap.size, x, none⟩ = false := by
  refine ⟨?_, h.1.frozenAt x⟩
  rw [h.1.cellAt x (by omega)]
  simp [seenL, hx]
theorem OnR.set {w wr : World} {m : Nat} {L : List Int} (h : OnR w m L wr) {x : Nat} (hx : x < m) : OnR w m (L ++ [(x : Int)]) (wr.setCell ⟨w.heap.size, x, none⟩ (.bool true)) := by
  refine ⟨?_, h.2.setCell (Nat.le_refl _) _⟩
  have := (h.1.stored x (.bool true)).1
  rwa [← List.map_set, seenL_set m L x hx] at this
theorem OnR.set_take {w wr : World} {m : Nat} {s : Int} {wk : List Int} {k : Nat} (h : OnR w m (s :: wk.take k) wr) (hk : k < wk.length) {x : Nat} (hx : x < m) (e : wk.getD k 0 = (x : Int)) : OnR w m (s :: wk.take (k + 1)) (wr.setCell ⟨w.heap.size, x, none⟩ (.bool true)) := by
  have := h.set hx
  rwa [← e, List.getD_eq_getElem?_getD, List.getElem?_eq_getElem hk, Option.getD_some, List.cons_append, ← take_snoc' wk k hk] at this

end Go.Proofs.Qxb6615561a
