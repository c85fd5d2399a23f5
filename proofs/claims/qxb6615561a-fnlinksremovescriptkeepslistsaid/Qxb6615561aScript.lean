/-
  THE WALK of seat b6615561a: FnLinksRemoveScriptKeepsList, where the ring is well formed.
-/
import Derived.Test.Qxb6615561aLinks
namespace Go.Proofs.Qxb6615561a
open Go.RowKit

theorem bytes34 (a0 a1 a2 : Option Addr) (n0 c0 n1 c1 n2 c2 : Nat) (w : World) (h0 : n0 ≤ 4096) (h1 : n1 ≤ 4096) (h2 : n2 ≤ 4096) :
    Calls Try.prog 34 #[.slice a0 n0 c0, .slice a1 n1 c1, .slice a2 n2 c2] w fun e w' => e = .returned (.bool true) ∧ w = w' := by
  go_enter Try.func34, Try.ntmps34
  go_wp2
  go_ret
  exact ⟨rfl, rfl⟩

/-- cloneInts, whatever the length -/
theorem clone_own {v : Value} {zs : List Int} {w : World} (h : Rd w v zs) (hn : zs = [] → v = .slice none 0 0) :
    Calls Try.prog 17 #[v] w fun e w' => ∃ v', e = .returned v' ∧ Own w' w.heap.size v' zs ∧ Below w.heap.size w w' := by
  by_cases he : zs = []
  · rw [hn he]
    refine (clone_nil w).mono fun e w' ⟨h1, h2⟩ => ?_
    subst h2
    exact ⟨_, h1, by rw [he]; exact World.ownsRow_nil _ _ _ _, Below.refl _ _⟩
  · obtain ⟨a, cap, rfl, hl, h⟩ := h
    rcases h with h | ⟨b, off, rfl, hb, hc⟩
    · exact absurd h he
    · exact (clone_some b off zs.length cap zs w hl rfl hb hc).mono fun e w' ⟨h1, h2, h3⟩ => ⟨_, h1, h2, h3⟩

/-- linksWalk over a ring that is well formed: its value taken apart -/
theorem walk_parts {vn vp : Value} {nx pv wk : List Int} {w : World} {m : Nat} (hn : Rd w vn nx) (hp : Rd w vp pv) (hm : m ≤ 1048576) (h1 : 1 ≤ m) (hg : Ring.Good m nx pv wk) :
    Calls Try.prog 15 #[vn, vp] w fun e w' => ∃ a g cap, e = .returned (.tuple #[.slice a wk.length cap, .bool true]) ∧ (0 < wk.length → a = some ⟨g, 0, none⟩ ∧ g < w'.heap.size) ∧
      (∀ k, k < wk.length → w'.cell? ⟨g, k, none⟩ = some (.int .i64 (wk.getD k 0))) ∧ Rd w' (.slice a wk.length cap) wk ∧ Below w.heap.size w w' := by
  refine (walk_any hn hp hg.ln hg.lp h1 (Ring.of_good hg)).mono ?_
  rintro e w' ⟨v, rfl, ho, hnil, hl, hb⟩
  simp only [Option.getD_some, Option.isSome_some] at ho hl hnil ⊢
  have hr := ho.rd (by omega)
  rcases ho.2 with ⟨rfl, h0⟩ | ⟨g, cap, cur, rfl, _, hh, _⟩
  · exact ⟨none, 0, 0, by rw [h0], by omega, by omega, by rw [h0]; exact hr, hb⟩
  · refine ⟨_, g, cap, rfl, fun _ => ⟨rfl, (Array.getElem?_eq_some_iff.1 hh).1⟩, fun k hk => ?_, hr, hb⟩
    rw [World.ownsRow.cellAt ho k (by omega)]
    simp [hk]

/-- One removal, by the plain law. -/
structure One (m : Nat) (nx pv wk : List Int) (x : Int) (na pa : List Int) (out : List Int) : Prop where
  g0 : Ring.Good m nx pv wk
  hx : x ∈ wk
  ea : Ring.rn nx pv x = na
  eb : Ring.rp nx pv x = pa
  ga : Ring.Good m na pa out
  eo : wo x wk = out
  off : ∀ y : Nat, y < m → (y : Int) ∉ ((m - 1 : Nat) : Int) :: out → na.getD y 0 = nx.getD y 0 ∧ pa.getD y 0 = pv.getD y 0

theorem one {m : Nat} {nx pv wk : List Int} (hg : Ring.Good m nx pv wk) {x : Int} (hx : x ∈ wk) : ∃ na pa out, One m nx pv wk x na pa out := by
  have k := Ring.near hg hx
  have hs := hg.short
  refine ⟨_, _, _, ⟨hg, hx, rfl, rfl, k.good, rfl, ?_⟩⟩
  intro y hy hn
  rw [show ((m - 1 : Nat) : Int) = (m : Int) - 1 from by omega] at hn
  have hr : Ring.InR m (y : Int) := by unfold Ring.InR; omega
  simp only [List.mem_cons, not_or] at hn
  have cv : ∀ l : List Int, Ring.g l (y : Int) = l.getD y 0 := fun l => by simp [Ring.g]
  rw [← cv, ← cv, ← cv, ← cv]
  by_cases e : (y : Int) = x
  · rw [e]; exact Ring.rn_self hg hx
  · exact Ring.rn_off hg hx hr hn.1 (fun h => hn.2 (by simp [h, e]))

theorem Own.keep {w w' : World} {B bn bp : Nat} {v : Value} {zs : List Int} (h : Own w B v zs) (hk : Keep bn bp w w') (h1 : bn < B) (h2 : bp < B) : Own w' B v zs := by
  refine ⟨h.1, ?_⟩
  rcases h.2 with h3 | ⟨g, cap, cur, hv, hg, hh, r⟩
  · exact .inl h3
  · refine .inr ⟨g, cap, cur, hv, hg, ?_, r⟩
    rw [hk.block g (Array.getElem?_eq_some_iff.1 hh).1 (by omega) (by omega)]
    exact hh

/-- What the outer loop keeps: next and prev hold a ring, the model its members. -/
structure ScR (w : World) (m bN bP C : Nat) (nx pv wk : List Int) (v : Value) (wr : World) : Prop where
  good : Ring.Good m nx pv wk
  iN : Ints wr bN nx
  iP : Ints wr bP pv
  own : Own wr C v wk
  bel : Below w.heap.size w wr
  big : C ≤ wr.heap.size

set_option maxHeartbeats 4000000 in
set_option maxRecDepth 100000 in
theorem script_hard (a0 : Option Addr) (cap0 : Nat) (a1 : Option Addr) (cap1 m : Nat) (a2 : Option Addr) (b2 o2 n2 cap2 : Nat) (nx pv os wk : List Int) (w : World) (hm : m ≤ 4096) (h1 : 1 ≤ m) (hn2 : n2 ≤ 4096)
    (hn : Rd w (.slice a0 m cap0) nx) (hp : Rd w (.slice a1 m cap1) pv) (hg : Ring.Good m nx pv wk) (ha2 : 0 < n2 → a2 = some ⟨b2, o2, none⟩ ∧ b2 < w.heap.size)
    (hc2 : ∀ k, k < n2 → w.cell? ⟨b2, o2 + k, none⟩ = some (.int .i64 (os.getD k 0))) :
    Calls Try.prog 7 #[.slice a0 m cap0, .slice a1 m cap1, .slice a2 n2 cap2] w fun e w' => e = .returned (.bool true) ∧ Below w.heap.size w w' := by
  have LN : Hid (nx.length = m) := hg.ln
  have LP : Hid (pv.length = m) := hg.lp
  have hne : nx ≠ [] := by intro e; have := LN.out; rw [e] at this; simp at this; omega
  have hpe : pv ≠ [] := by intro e; have := LP.out; rw [e] at this; simp at this; omega
  have LM : m ≤ 1048576 := by omega
  have hd1 : decide ((4096 : Int) < (m : Int)) = false := decide_eq_false (by omega)
  have hd2 : decide ((4096 : Int) < (n2 : Int)) = false := decide_eq_false (by omega)
  have hd3 : ((m : Int) == 0) = false := beq_eq_false_iff_ne.2 (by omega)
  obtain ⟨i4, hi4, hz40, hz41, hz42⟩ := info_parts Try.info4
  go_enter Try.func7, Try.ntmps7
  go_wp2_with fail
  refine (bytes34 _ _ _ _ _ _ _ _ _ _ hm hm hn2).mono ?_
  rintro e w' ⟨rfl, hw⟩
  subst hw
  go_wp2_with fail
  refine (walk_any hn hp hg.ln hg.lp h1 (Ring.of_good hg)).mono ?_
  rintro e w1 ⟨v, rfl, ho, hnil, hl, hb1⟩
  simp only [Option.getD_some, Option.isSome_some] at ho hl hnil ⊢
  have hn1 := hn.below hb1 (Nat.le_refl _)
  have hp1 := hp.below hb1 (Nat.le_refl _)
  have hv := ho.rd (by omega)
  clear hn hp ho
  go_wp2_with fail
  refine (clone_any hn1 hne LN.out).mono ?_
  rintro e w2 ⟨bN, rfl, iN, gN, hbb⟩
  have hp2 := hp1.below hbb (Nat.le_refl _)
  have hv2 := hv.below hbb (Nat.le_refl _)
  clear hn1 hp1 hv
  go_wp2_with fail
  refine (clone_any hp2 hpe LP.out).mono ?_
  rintro e w3 ⟨bP, rfl, iP, gP, hb3⟩
  have sz1 := hb1.size
  have sz2 := hbb.size
  have lN := iN.lt
  have lP := iP.lt
  have hv3 := hv2.below hb3 (Nat.le_refl _)
  have iN := iN.below hb3 lN
  clear hv2 hp2
  go_wp2_with fail
  refine (clone_own hv3 hnil).mono ?_
  rintro e w4 ⟨v4, rfl, o4, hb4⟩
  have st : ScR w m bN bP w3.heap.size nx pv wk v4 w4 := ⟨hg, iN.below hb4 iN.lt, iP.below hb4 iP.lt, o4, ((hb1.trans (hbb.mono sz1)).trans (hb3.mono (by omega))).trans (hb4.mono (by have := hb3.size; omega)), hb4.size⟩
  clear hnil hv3 iN iP o4 hb1 hbb hb3 hb4 hg hne hpe hl
  go_wp2_with fail
  go_loopw [10, 11] (fun vm i wr => ∃ (k : Nat) (nx pv wk : List Int), k ≤ n2 ∧ i = .int .i64 k ∧ ScR w m bN bP w3.heap.size nx pv wk vm wr) (fun _ i _ => n2 - (intOf i).toNat)
  case atStart => exact ⟨0, nx, pv, wk, Nat.zero_le _, rfl, st⟩
  case round =>
    clear st LN LP hd1 hd2 hd3
    obtain ⟨k, nx, pv, wk, hk, rfl, st⟩ := hrel
    by_cases hlt : k < n2
    · obtain ⟨e2, hb2⟩ := ha2 (by omega)
      subst e2
      clear ha2
      have hcell : wr.cell? ⟨b2, o2 + k, none⟩ = some (.int .i64 (os.getD k 0)) := (st.bel.cell (p := ⟨b2, o2 + k, none⟩) hb2).trans (hc2 k hlt)
      generalize os.getD k 0 = x at hcell
      have hlk := st.good.short
      have hv := st.own.rd (by omega)
      by_cases hx : x ∈ wk
      · have HX : Hid (decide (x ∈ wk) = true) := decide_eq_true hx
        obtain ⟨na, pa, out, T⟩ := one st.good hx
        clear hx
        go_wp2_with fail
        refine (contains_at x true hv HX.out).mono ?_
        rintro e w' ⟨rfl, hw⟩
        subst hw
        have LN := T.g0.ln
        have LP := T.g0.lp
        have hne : nx ≠ [] := by intro e; rw [e] at LN; simp at LN; omega
        have hpe : pv ≠ [] := by intro e; rw [e] at LP; simp at LP; omega
        have LN : Hid (nx.length = m) := LN
        have LP : Hid (pv.length = m) := LP
        have hlo := T.ga.short
        have iN := st.iN
        have iP := st.iP
        have lN := iN.lt
        have lP := iP.lt
        have big := st.big
        go_wp2_with fail
        refine (without_any x hv).mono ?_
        rintro e w5 ⟨v5, rfl, o5, hb5⟩
        rw [T.eo] at o5
        have s5 := hb5.size
        have o5 : Own w5 w3.heap.size v5 out := o5.mono (by omega)
        have iN := iN.below hb5 lN
        have iP := iP.below hb5 lP
        clear hv
        go_wp2_with fail
        refine (clone_any (iN.rd LN.out LM) hne LN.out).mono ?_
        rintro e w6 ⟨bO, rfl, iO, gO, hb6⟩
        have s6 := hb6.size
        have iN := iN.below hb6 iN.lt
        have iP := iP.below hb6 iP.lt
        have o6 := o5.below hb6 (Nat.le_refl _)
        go_wp2_with fail
        refine (clone_any (iP.rd LP.out LM) hpe LP.out).mono ?_
        rintro e w7 ⟨bQ, rfl, iQ, gQ, hb7⟩
        have s7 := hb7.size
        have iN := iN.below hb7 iN.lt
        have iP := iP.below hb7 iP.lt
        have iO := iO.below hb7 iO.lt
        have o7 := o6.below hb7 (Nat.le_refl _)
        go_wp2_with fail
        refine (remove_at iN iP (by omega) T.g0 T.hx T.ea T.eb).mono ?_
        rintro e w8 ⟨rfl, iN, iP, K8⟩
        have s8 := K8.size
        have iO := iO.keep K8 (by omega) (by omega)
        have iQ := iQ.keep K8 (by omega) (by omega)
        have o8 := o7.keep K8 (by omega) (by omega)
        have H8 : Below w.heap.size w w8 := (((st.bel.trans (hb5.mono (by omega))).trans (hb6.mono (by omega))).trans (hb7.mono (by omega))).trans (K8.below (by omega) (by omega) (by omega))
        clear hb5 hb6 hb7 K8 o5 o6 o7
        go_wp2_with fail
        refine (walk_parts (iN.rd T.ga.ln LM) (iP.rd T.ga.lp LM) LM h1 T.ga).mono ?_
        rintro e w9 ⟨a9, g9, c9, rfl, ha9, hc9, r9, hb9⟩
        have s9 := hb9.size
        have iN := iN.below hb9 iN.lt
        have iP := iP.below hb9 iP.lt
        have iO := iO.below hb9 iO.lt
        have iQ := iQ.below hb9 iQ.lt
        have o9 := o8.below hb9 (Nat.le_refl _)
        go_wp2_with fail
        refine (equal_at r9 (o9.rd (by omega))).mono ?_
        rintro e w10 ⟨rfl, hb10⟩
        have s10 := hb10.size
        have hc9 : ∀ k, k < out.length → w10.cell? ⟨g9, k, none⟩ = some (.int .i64 (out.getD k 0)) := fun k hk => (hb10.cell (p := ⟨g9, k, none⟩) (ha9 (by omega)).2).trans (hc9 k hk)
        have iN := iN.below hb10 iN.lt
        have iP := iP.below hb10 iP.lt
        have iO := iO.below hb10 iO.lt
        have iQ := iQ.below hb10 iQ.lt
        have o10 := o9.below hb10 (Nat.le_refl _)
        have H10 : Below w.heap.size w w10 := (H8.trans (hb9.mono (by omega))).trans (hb10.mono (by omega))
        clear r9 hb9 hb10 o8 o9 H8
        have iNl := iN.lt
        have iPl := iP.lt
        have iOl := iO.lt
        have iQl := iQ.lt
        go_wp2_with (at_make; refine wpList_make_full _ rfl (.tmp 101) (.tmp 101) 46 rfl w10.heap.size 4 i4 (.bool false) 1 Try.underlying46 hi4 hz40 hz41 .i64 .i64 (m : Int) (m : Int) m rfl rfl rfl rfl (by rw [hz42]; omega) (by unfold maxLen; omega) (Nat.le_refl _) ?_; intro w11 hown hgrow; have hst := OnR.start hown hgrow; have hf1 := (hst.facts (x := m - 1) (by omega)).1; have hf2 := (hst.facts (x := m - 1) (by omega)).2; clear hown hgrow)
        go_loopw [18] (fun i wr => ∃ k : Nat, k ≤ out.length ∧ i = .int .i64 k ∧ OnR w10 m (((m - 1 : Nat) : Int) :: out.take k) wr) (fun i _ => out.length - (intOf i).toNat)
        case atStart => exact ⟨0, Nat.zero_le _, rfl, by simpa using hst.set (x := m - 1) (by omega)⟩
        case round =>
          obtain ⟨t, ht, rfl, hon⟩ := hrel
          clear hst hf1 hf2
          by_cases htl : t < out.length
          · have hxr := T.ga.inr (out.getD t 0) (by simp [htl])
            unfold Ring.InR at hxr
            obtain ⟨y, ey⟩ := Int.eq_ofNat_of_zero_le hxr.1
            obtain ⟨e9, hg9⟩ := ha9 (by omega)
            subst e9
            clear ha9
            have hcy : wr.cell? ⟨g9, t, none⟩ = some (.int .i64 y) := by rw [← ey]; exact (hon.2.cell (p := ⟨g9, t, none⟩) (by show g9 < _; omega)).trans (hc9 t htl)
            have hym : y < m := by omega
            obtain ⟨bb, hse⟩ : ∃ bb, wr.cell? ⟨w10.heap.size, y, none⟩ = some (.bool bb) := ⟨_, (hon.facts hym).1⟩
            have hfr := (hon.facts hym).2
            have hon1 := hon.set_take htl hym ey
            clear hxr ey
            go_wp2
            go_roundw
            case rel => exact ⟨t + 1, by omega, by go_num, hon1⟩
            case measure => simp [intOf]; omega
          · have hkl : out.take t = out := List.take_of_length_le (by omega)
            rw [hkl] at hon
            clear hkl ha9 hc9
            go_wp2
            go_loopw [19] (fun i wy => ∃ y : Nat, y ≤ m ∧ i = .int .i64 y ∧ ∃ n, wy = wr.drewN n) (fun i _ => m - (intOf i).toNat)
            case atStart => exact ⟨0, Nat.zero_le _, rfl, 0, rfl⟩
            case round =>
              obtain ⟨y, hy, rfl, n, rfl⟩ := hrel
              by_cases hym : y < m
              · obtain ⟨hse, _⟩ := hon.facts hym
                have hI : (y : Int) < (m : Int) := by omega
                have hI0 : (0 : Int) ≤ (y : Int) := by omega
                by_cases hmem : (y : Int) ∈ ((m - 1 : Nat) : Int) :: out
                · rw [decide_eq_true hmem] at hse
                  clear hmem
                  go_wp2
                  go_quiet (fail)
                  go_wp2
                  go_roundw
                  case rel => exact ⟨y + 1, by omega, by go_num, _, rfl⟩
                  case measure => simp [intOf]; omega
                · rw [decide_eq_false hmem] at hse
                  have ho := T.off y hym hmem
                  have lN := LN.out
                  have lP := LP.out
                  have t1 := T.ga.ln
                  have t2 := T.ga.lp
                  obtain ⟨z1, hz1⟩ : ∃ z, nx.getD y 0 = z := ⟨_, rfl⟩
                  obtain ⟨z2, hz2⟩ : ∃ z, pv.getD y 0 = z := ⟨_, rfl⟩
                  have cO : wr.cell? ⟨bO, y, none⟩ = some (.int .i64 z1) := by rw [← hz1]; exact (hon.2.cell (p := ⟨bO, y, none⟩) iOl).trans (iO.cell (by omega))
                  have cQ : wr.cell? ⟨bQ, y, none⟩ = some (.int .i64 z2) := by rw [← hz2]; exact (hon.2.cell (p := ⟨bQ, y, none⟩) iQl).trans (iQ.cell (by omega))
                  have cN : wr.cell? ⟨bN, y, none⟩ = some (.int .i64 z1) := by rw [← hz1, ← ho.1]; exact (hon.2.cell (p := ⟨bN, y, none⟩) iNl).trans (iN.cell (by omega))
                  have cP : wr.cell? ⟨bP, y, none⟩ = some (.int .i64 z2) := by rw [← hz2, ← ho.2]; exact (hon.2.cell (p := ⟨bP, y, none⟩) iPl).trans (iP.cell (by omega))
                  clear hmem ho lN lP t1 t2 hz1 hz2
                  go_wp2
                  go_quiet (fail)
                  go_wp2
                  go_roundw
                  case rel => exact ⟨y + 1, by omega, by go_num, _, rfl⟩
                  case measure => simp [intOf]; omega
              · have hbn : Below w10.heap.size w10 (wr.drewN n) := below_drewN hon.2 n
                have sn := hbn.size
                have fin : ScR w m bN bP w3.heap.size na pa out v5 (wr.drewN n) := ⟨T.ga, iN.below hbn iNl, iP.below hbn iPl, o10.below hbn (Nat.le_refl _), H10.trans (hbn.mono (by omega)), by omega⟩
                clear sn
                go_wp2
                go_roundw
                case rel => exact ⟨k + 1, na, pa, out, by omega, by go_num, fin⟩
                case measure => simp [intOf]; omega
      · have HX : Hid (decide (x ∈ wk) = false) := decide_eq_false hx
        clear hx
        go_wp2_with fail
        refine (contains_at x false hv HX.out).mono ?_
        rintro e w' ⟨rfl, hw⟩
        subst hw
        go_wp2
        go_roundw
        case rel => exact ⟨k + 1, nx, pv, wk, by omega, by go_num, st⟩
        case measure => simp [intOf]; omega
    · go_wp2
      go_ret
      exact ⟨rfl, st.bel⟩

end Go.Proofs.Qxb6615561a
