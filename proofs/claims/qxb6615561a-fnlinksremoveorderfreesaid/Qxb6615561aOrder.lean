/-
  THE WALK of seat b6615561a: FnLinksRemoveOrderFree, where the ring is well formed and both i and j are members.
-/
import Derived.Test.Qxb6615561aLinks
namespace Go.Proofs.Qxb6615561a
open Go.RowKit

/-- All that the plain law says of the two orders. -/
structure Two (m : Nat) (nx pv wk : List Int) (i j : Int) (na pa nb pb nc pc nd pd : List Int) (out : List Int) : Prop where
  g0 : Ring.Good m nx pv wk
  hi : i ∈ wk
  hj : j ∈ wk
  ea : Ring.rn nx pv i = na ∧ Ring.rp nx pv i = pa
  ga : Ring.Good m na pa (wo i wk)
  hja : j ∈ wo i wk
  eb : Ring.rn na pa j = nb ∧ Ring.rp na pa j = pb
  gb : Ring.lw nb pb ((m : Int) - 1) m ((m : Int) - 1) [] = some out
  ec : Ring.rn nx pv j = nc ∧ Ring.rp nx pv j = pc
  gc : Ring.Good m nc pc (wo j wk)
  hic : i ∈ wo j wk
  ed : Ring.rn nc pc i = nd ∧ Ring.rp nc pc i = pd
  gd : Ring.lw nd pd ((m : Int) - 1) m ((m : Int) - 1) [] = some out
  eo : wo j (wo i wk) = out
  lb : nb.length = m ∧ pb.length = m
  ld : nd.length = m ∧ pd.length = m
  off : ∀ x : Nat, x < m → (x : Int) ∉ ((m : Int) - 1) :: wk → nb.getD x 0 = nx.getD x 0 ∧ pb.getD x 0 = pv.getD x 0 ∧ nd.getD x 0 = nx.getD x 0 ∧ pd.getD x 0 = pv.getD x 0

theorem two {m : Nat} {nx pv wk : List Int} (hg : Ring.Good m nx pv wk) {i j : Int} (hi : i ∈ wk) (hj : j ∈ wk) (hij : i ≠ j) :
    ∃ na pa nb pb nc pc nd pd out, Two m nx pv wk i j na pa nb pb nc pc nd pd out := by
  have ga := (Ring.near hg hi).good
  have gc := (Ring.near hg hj).good
  have hja : j ∈ wo i wk := by unfold wo; simp [hj]; exact fun e => hij e.symm
  have hic : i ∈ wo j wk := by unfold wo; simp [hi]; exact hij
  have gb := (Ring.near ga hja).good
  have gd := (Ring.near gc hic).good
  have e : wo i (wo j wk) = wo j (wo i wk) := by
    unfold wo; rw [List.filter_filter, List.filter_filter]
    congr 1; funext x; exact Bool.and_comm _ _
  refine ⟨_, _, _, _, _, _, _, _, _, ⟨hg, hi, hj, ⟨rfl, rfl⟩, ga, hja, ⟨rfl, rfl⟩, Ring.of_good gb, ⟨rfl, rfl⟩, gc, hic, ⟨rfl, rfl⟩, ?_, rfl, ⟨gb.ln, gb.lp⟩, ⟨gd.ln, gd.lp⟩, ?_⟩⟩
  · have := Ring.of_good gd
    rw [this]; exact congrArg some e
  · intro x hx hn
    have hr : Ring.InR m (x : Int) := by unfold Ring.InR; omega
    simp only [List.mem_cons, not_or] at hn
    have sub : ∀ y, (x : Int) ∉ wo y wk := fun y h => hn.2 (List.mem_filter.1 h).1
    have o1 := Ring.rn_off hg hi hr hn.1 hn.2
    have o2 := Ring.rn_off ga hja hr hn.1 (sub i)
    have o3 := Ring.rn_off hg hj hr hn.1 hn.2
    have o4 := Ring.rn_off gc hic hr hn.1 (sub j)
    have cv : ∀ l : List Int, Ring.g l (x : Int) = l.getD x 0 := fun l => by simp [Ring.g]
    rw [← cv, ← cv, ← cv, ← cv, ← cv, ← cv]
    exact ⟨o2.1.trans o1.1, o2.2.trans o1.2, o4.1.trans o3.1, o4.2.trans o3.2⟩

set_option maxHeartbeats 4000000 in
set_option maxRecDepth 100000 in
theorem order_hard (a0 : Option Addr) (cap0 : Nat) (a1 : Option Addr) (cap1 m : Nat) (nx pv : List Int) (i j : Int) (w : World) (hm : m ≤ 65536) (h1 : 1 ≤ m)
    (hn : Rd w (.slice a0 m cap0) nx) (hp : Rd w (.slice a1 m cap1) pv) (ln : nx.length = m) (lp : pv.length = m) (hij : (i == j) = false)
    (wk na pa nb pb nc pc nd pd out : List Int) (T : Two m nx pv wk i j na pa nb pb nc pc nd pd out) :
    Calls Try.prog 4 #[.slice a0 m cap0, .slice a1 m cap1, .int .i64 i, .int .i64 j] w fun e w' => e = .returned (.bool true) ∧ Below w.heap.size w w' := by
  have hlk := T.g0.short
  have LN : Hid (nx.length = m) := ln
  have LP : Hid (pv.length = m) := lp
  clear ln lp
  have hne : nx ≠ [] := by intro e; have := LN.out; rw [e] at this; simp at this; omega
  have hpe : pv ≠ [] := by intro e; have := LP.out; rw [e] at this; simp at this; omega
  have LM : m ≤ 1048576 := by omega
  have hd1 : decide ((65536 : Int) < (m : Int)) = false := decide_eq_false (by omega)
  have hd2 : decide ((1048576 : Int) < ((m : Int) + (m : Int)) * 8) = false := decide_eq_false (by omega)
  have hd3 : ((m : Int) == 0) = false := beq_eq_false_iff_ne.2 (by omega)
  obtain ⟨i4, hi4, hz40, hz41, hz42⟩ := info_parts Try.info4
  have hr : ∀ x ∈ wk, Ring.InR m x := T.g0.inr
  have hoff := T.off
  go_enter Try.func4, Try.ntmps4
  go_wp2_with fail
  refine (bytes14 _ _ _ _ _ _ _ _ _ hm hm).mono ?_
  rintro e w' ⟨rfl, hw⟩
  have hw := hw.symm
  subst hw
  go_wp2_with fail
  refine (walk_full hn hp LM h1 T.g0 (List.ne_nil_of_mem T.hi)).mono ?_
  rintro e w1 ⟨gw, cw, rfl, hgw, hcw, hb1⟩
  have hv : Rd w1 (.slice (some ⟨gw, 0, none⟩) wk.length cw) wk := ⟨_, _, rfl, by omega, .inr ⟨gw, 0, rfl, hgw, fun k hk => by rw [Nat.zero_add]; exact hcw k hk⟩⟩
  go_wp2_with fail
  refine (contains_at i true hv (decide_eq_true T.hi)).mono ?_
  rintro e w' ⟨rfl, hw⟩
  subst hw
  go_wp2_with fail
  refine (contains_at j true hv (decide_eq_true T.hj)).mono ?_
  rintro e w' ⟨rfl, hw⟩
  subst hw
  have hn1 := hn.below hb1 (Nat.le_refl _)
  have hp1 := hp.below hb1 (Nat.le_refl _)
  clear hn hp
  go_wp2_with fail
  refine (clone_any hn1 hne LN.out).mono ?_
  rintro e w2 ⟨bN, rfl, iN, gN, hb2⟩
  have hp2 := hp1.below hb2 (Nat.le_refl _)
  have hv2 := hv.below hb2 (Nat.le_refl _)
  clear hn1 hp1 hv
  go_wp2_with fail
  refine (clone_any hp2 hpe LP.out).mono ?_
  rintro e w3 ⟨bP, rfl, iP, gP, hb3⟩
  have sz1 := hb1.size
  have sz2 := hb2.size
  have lN := iN.lt
  have lP := iP.lt
  have hv3 := hv2.below hb3 (Nat.le_refl _)
  have iN := iN.below hb3 lN
  have iN3 := iN
  have iP3 := iP
  clear hv2 hp2
  -- the four clones
  go_wp2_with fail
  refine (clone_any (iN.rd LN.out LM) hne LN.out).mono ?_
  rintro e w4 ⟨b1, rfl, i1, g1, hb4⟩
  have l1 := i1.lt
  have iN := iN.below hb4 iN.lt
  have iP := iP.below hb4 iP.lt
  go_wp2_with fail
  refine (clone_any (iP.rd LP.out LM) hpe LP.out).mono ?_
  rintro e w5 ⟨q1, rfl, k1, f1, hb5⟩
  have m1 := k1.lt
  have iN := iN.below hb5 iN.lt
  have iP := iP.below hb5 iP.lt
  have i1 := i1.below hb5 i1.lt
  go_wp2_with fail
  refine (clone_any (iN.rd LN.out LM) hne LN.out).mono ?_
  rintro e w6 ⟨b2, rfl, i2, g2, hb6⟩
  have l2 := i2.lt
  have iN := iN.below hb6 iN.lt
  have iP := iP.below hb6 iP.lt
  have i1 := i1.below hb6 i1.lt
  have k1 := k1.below hb6 k1.lt
  go_wp2_with fail
  refine (clone_any (iP.rd LP.out LM) hpe LP.out).mono ?_
  rintro e w7 ⟨q2, rfl, k2, f2, hb7⟩
  have m2 := k2.lt
  have iN := iN.below hb7 iN.lt
  have iP := iP.below hb7 iP.lt
  have i1 := i1.below hb7 i1.lt
  have k1 := k1.below hb7 k1.lt
  have i2 := i2.below hb7 i2.lt
  have sz3 := hb3.size
  have sz4 := hb4.size
  have sz5 := hb5.size
  have sz6 := hb6.size
  have sz7 := hb7.size
  -- all that was there ahead of the call, and all that lies below the four clones, is kept from here on
  have H0 : Below w.heap.size w w7 := (((((hb1.trans (hb2.mono (by omega))).trans (hb3.mono (by omega))).trans (hb4.mono (by omega))).trans (hb5.mono (by omega))).trans (hb6.mono (by omega))).trans (hb7.mono (by omega))
  have H3 : Below w3.heap.size w3 w7 := ((hb4.trans (hb5.mono (by omega))).trans (hb6.mono (by omega))).trans (hb7.mono (by omega))
  clear hb1 hb2 hb3 hb4 hb5 hb6 hb7
  go_wp2_with fail
  refine (remove_at i1 k1 (by omega) T.g0 T.hi T.ea.1 T.ea.2).mono ?_
  rintro e w8 ⟨rfl, i1, k1, K8⟩
  have i2 := i2.keep K8 (by omega) (by omega)
  have k2 := k2.keep K8 (by omega) (by omega)
  go_wp2_with fail
  refine (remove_at i1 k1 (by omega) T.ga T.hja T.eb.1 T.eb.2).mono ?_
  rintro e w9 ⟨rfl, i1, k1, K9⟩
  have i2 := i2.keep K9 (by omega) (by omega)
  have k2 := k2.keep K9 (by omega) (by omega)
  go_wp2_with fail
  refine (remove_at i2 k2 (by omega) T.g0 T.hj T.ec.1 T.ec.2).mono ?_
  rintro e w10 ⟨rfl, i2, k2, K10⟩
  have i1 := i1.keep K10 (by omega) (by omega)
  have k1 := k1.keep K10 (by omega) (by omega)
  go_wp2_with fail
  refine (remove_at i2 k2 (by omega) T.gc T.hic T.ed.1 T.ed.2).mono ?_
  rintro e w11 ⟨rfl, i2, k2, K11⟩
  have i1 := i1.keep K11 (by omega) (by omega)
  have k1 := k1.keep K11 (by omega) (by omega)
  have H0 : Below w.heap.size w w11 := (((H0.trans (K8.below (by omega) (by omega) (by omega))).trans (K9.below (by omega) (by omega) (by have := K8.size; omega))).trans (K10.below (by omega) (by omega) (by have := K8.size; have := K9.size; omega))).trans (K11.below (by omega) (by omega) (by have := K8.size; have := K9.size; have := K10.size; omega))
  have H3 : Below w3.heap.size w3 w11 := (((H3.trans (K8.below (by omega) (by omega) (by omega))).trans (K9.below (by omega) (by omega) (by have := K8.size; omega))).trans (K10.below (by omega) (by omega) (by have := K8.size; have := K9.size; omega))).trans (K11.below (by omega) (by omega) (by have := K8.size; have := K9.size; have := K10.size; omega))
  have sz11 : w7.heap.size ≤ w11.heap.size := by have := K8.size; have := K9.size; have := K10.size; have := K11.size; omega
  clear K8 K9 K10 K11
  have hv11 := hv3.below H3 (Nat.le_refl _)
  have LO : Hid (out.length ≤ 1048576) := by
    show out.length ≤ 1048576
    rw [← T.eo]
    have h1 := wo_le j (wo i wk)
    have h2 := wo_le i wk
    omega
  have LW : Hid ((wo i wk).length ≤ 1048576) := by
    show (wo i wk).length ≤ 1048576
    have h2 := wo_le i wk
    omega
  go_wp2_with fail
  refine (without_any i hv11).mono ?_
  rintro e w12 ⟨u1, rfl, o1, hb12⟩
  have r1 := o1.rd LW.out
  clear o1 hv11
  go_wp2_with fail
  refine (without_any j r1).mono ?_
  rintro e w13 ⟨u2, rfl, o2, hb13⟩
  rw [T.eo] at o2
  have r2 := o2.rd LO.out
  clear o2 r1
  have i1 := (i1.below hb12 i1.lt).below hb13 (by have := i1.lt; have := hb12.size; omega)
  have k1 := (k1.below hb12 k1.lt).below hb13 (by have := k1.lt; have := hb12.size; omega)
  have i2 := (i2.below hb12 i2.lt).below hb13 (by have := i2.lt; have := hb12.size; omega)
  have k2 := (k2.below hb12 k2.lt).below hb13 (by have := k2.lt; have := hb12.size; omega)
  go_wp2_with fail
  refine (walk_any (i1.rd T.lb.1 LM) (k1.rd T.lb.2 LM) T.lb.1 T.lb.2 h1 T.gb).mono ?_
  rintro e w14 ⟨u3, rfl, o3, -, -, hb14⟩
  simp only [Option.getD_some, Option.isSome_some] at o3 ⊢
  have r3 := o3.rd LO.out
  have r2 := r2.below hb14 (Nat.le_refl _)
  have i1 := i1.below hb14 i1.lt
  have k1 := k1.below hb14 k1.lt
  have i2 := i2.below hb14 i2.lt
  have k2 := k2.below hb14 k2.lt
  clear o3
  go_wp2_with fail
  refine (walk_any (i2.rd T.ld.1 LM) (k2.rd T.ld.2 LM) T.ld.1 T.ld.2 h1 T.gd).mono ?_
  rintro e w15 ⟨u4, rfl, o4, -, -, hb15⟩
  simp only [Option.getD_some, Option.isSome_some] at o4 ⊢
  have r4 := o4.rd LO.out
  have r2 := r2.below hb15 (Nat.le_refl _)
  have r3 := r3.below hb15 (Nat.le_refl _)
  have i1 := i1.below hb15 i1.lt
  have k1 := k1.below hb15 k1.lt
  have i2 := i2.below hb15 i2.lt
  have k2 := k2.below hb15 k2.lt
  clear o4
  go_wp2_with fail
  refine (equal_at r3 r2).mono ?_
  rintro e w16 ⟨rfl, hb16⟩
  have r2 := r2.below hb16 (Nat.le_refl _)
  have r4 := r4.below hb16 (Nat.le_refl _)
  go_wp2_with fail
  refine (equal_at r4 r2).mono ?_
  rintro e w17 ⟨rfl, hb17⟩
  clear r2 r3 r4
  have i1 := (i1.below hb16 i1.lt).below hb17 (by have := i1.lt; have := hb16.size; omega)
  have k1 := (k1.below hb16 k1.lt).below hb17 (by have := k1.lt; have := hb16.size; omega)
  have i2 := (i2.below hb16 i2.lt).below hb17 (by have := i2.lt; have := hb16.size; omega)
  have k2 := (k2.below hb16 k2.lt).below hb17 (by have := k2.lt; have := hb16.size; omega)
  have s12 := hb12.size
  have s13 := hb13.size
  have s14 := hb14.size
  have s15 := hb15.size
  have s16 := hb16.size
  have s17 := hb17.size
  have H0 : Below w.heap.size w w17 := (((((H0.trans (hb12.mono (by omega))).trans (hb13.mono (by omega))).trans (hb14.mono (by omega))).trans (hb15.mono (by omega))).trans (hb16.mono (by omega))).trans (hb17.mono (by omega))
  have H3 : Below w3.heap.size w3 w17 := (((((H3.trans (hb12.mono (by omega))).trans (hb13.mono (by omega))).trans (hb14.mono (by omega))).trans (hb15.mono (by omega))).trans (hb16.mono (by omega))).trans (hb17.mono (by omega))
  have iN := iN3.below H3 iN3.lt
  have iP := iP3.below H3 iP3.lt
  clear hb12 hb13 hb14 hb15 hb16 hb17
  have hcw : ∀ k, k < wk.length → w17.cell? ⟨gw, k, none⟩ = some (.int .i64 (wk.getD k 0)) := fun k hk => by
    obtain ⟨_, _, e, _, h⟩ := hv3
    simp only [Value.slice.injEq] at e
    obtain ⟨rfl, _, _⟩ := e
    rcases h with h | ⟨b, off, e, hlt, hc⟩
    · rw [h] at hk; simp at hk
    · simp only [Option.some.injEq, Addr.mk.injEq, and_true] at e
      obtain ⟨rfl, rfl⟩ := e
      have := hc k hk
      rw [Nat.zero_add] at this
      rw [H3.cell (p := ⟨gw, k, none⟩) hlt]; exact this
  clear hv3 iN3 iP3 H3 hd1 hd2 hd3
  have lgw : gw < w17.heap.size := by omega
  have i1l := i1.lt
  have k1l := k1.lt
  have i2l := i2.lt
  have k2l := k2.lt
  have iNl := iN.lt
  have iPl := iP.lt
  go_wp2_with (at_make; refine wpList_make_full _ rfl (.tmp 139) (.tmp 139) 46 rfl w17.heap.size 4 i4 (.bool false) 1 Try.underlying46 hi4 hz40 hz41 .i64 .i64 (m : Int) (m : Int) m rfl rfl rfl rfl (by rw [hz42]; omega) (by unfold maxLen; omega) (Nat.le_refl _) ?_; intro w18 hown hgrow; have hst := OnR.start hown hgrow; have hf1 := (hst.facts (x := m - 1) (by omega)).1; have hf2 := (hst.facts (x := m - 1) (by omega)).2; clear hown hgrow)
  go_loopw [22] (fun i wr => ∃ k : Nat, k ≤ wk.length ∧ i = .int .i64 k ∧ OnR w17 m (((m - 1 : Nat) : Int) :: wk.take k) wr) (fun i _ => wk.length - (intOf i).toNat)
  case atStart => exact ⟨0, Nat.zero_le _, rfl, by simpa using hst.set (x := m - 1) (by omega)⟩
  case round =>
    obtain ⟨k, hk, rfl, hon⟩ := hrel
    clear hst hf1 hf2
    by_cases hlt : k < wk.length
    · have hxr := hr (wk.getD k 0) (by simp [hlt])
      unfold Ring.InR at hxr
      obtain ⟨x, ex⟩ := Int.eq_ofNat_of_zero_le hxr.1
      have hcell : wr.cell? ⟨gw, k, none⟩ = some (.int .i64 x) := by rw [← ex]; exact (hon.2.cell (p := ⟨gw, k, none⟩) lgw).trans (hcw k hlt)
      have hxm : x < m := by omega
      obtain ⟨bb, hse⟩ : ∃ bb, wr.cell? ⟨w17.heap.size, x, none⟩ = some (.bool bb) := ⟨_, (hon.facts hxm).1⟩
      have hfr := (hon.facts hxm).2
      have hon1 := hon.set_take hlt hxm ex
      clear hxr ex hr hoff
      go_wp2
      go_roundw
      case rel => exact ⟨k + 1, by omega, by go_num, hon1⟩
      case measure => simp [intOf]; omega
    · have hkl : wk.take k = wk := List.take_of_length_le (by omega)
      rw [hkl] at hon
      clear hkl
      go_wp2
      go_loopw [23] (fun i wy => ∃ x : Nat, x ≤ m ∧ i = .int .i64 x ∧ ∃ n, wy = wr.drewN n) (fun i _ => m - (intOf i).toNat)
      case atStart => exact ⟨0, Nat.zero_le _, rfl, 0, rfl⟩
      case round =>
        obtain ⟨x, hx, rfl, n, rfl⟩ := hrel
        by_cases hxm : x < m
        · obtain ⟨hse, _⟩ := hon.facts hxm
          have hI : (x : Int) < (m : Int) := by omega
          have hI0 : (0 : Int) ≤ (x : Int) := by omega
          by_cases hmem : (x : Int) ∈ ((m - 1 : Nat) : Int) :: wk
          · rw [decide_eq_true hmem] at hse
            clear hmem hr hoff hcw
            go_wp2
            go_roundw
            case rel => exact ⟨x + 1, by omega, by go_num, n, rfl⟩
            case measure => simp [intOf]; omega
          · rw [decide_eq_false hmem] at hse
            have ho := hoff x hxm (by rw [show (m : Int) - 1 = ((m - 1 : Nat) : Int) from by omega]; exact hmem)
            have lN := LN.out
            have lP := LP.out
            have t1 := T.lb
            have t2 := T.ld
            obtain ⟨z1, hz1⟩ : ∃ z, nx.getD x 0 = z := ⟨_, rfl⟩
            obtain ⟨z2, hz2⟩ : ∃ z, pv.getD x 0 = z := ⟨_, rfl⟩
            have cN : wr.cell? ⟨bN, x, none⟩ = some (.int .i64 z1) := by rw [← hz1]; exact (hon.2.cell (p := ⟨bN, x, none⟩) iNl).trans (iN.cell (by omega))
            have cP : wr.cell? ⟨bP, x, none⟩ = some (.int .i64 z2) := by rw [← hz2]; exact (hon.2.cell (p := ⟨bP, x, none⟩) iPl).trans (iP.cell (by omega))
            have c1 : wr.cell? ⟨b1, x, none⟩ = some (.int .i64 z1) := by rw [← hz1, ← ho.1]; exact (hon.2.cell (p := ⟨b1, x, none⟩) i1l).trans (i1.cell (by omega))
            have d1 : wr.cell? ⟨q1, x, none⟩ = some (.int .i64 z2) := by rw [← hz2, ← ho.2.1]; exact (hon.2.cell (p := ⟨q1, x, none⟩) k1l).trans (k1.cell (by omega))
            have c2 : wr.cell? ⟨b2, x, none⟩ = some (.int .i64 z1) := by rw [← hz1, ← ho.2.2.1]; exact (hon.2.cell (p := ⟨b2, x, none⟩) i2l).trans (i2.cell (by omega))
            have d2 : wr.cell? ⟨q2, x, none⟩ = some (.int .i64 z2) := by rw [← hz2, ← ho.2.2.2]; exact (hon.2.cell (p := ⟨q2, x, none⟩) k2l).trans (k2.cell (by omega))
            clear hmem hr hoff hcw ho lN lP t1 t2 hz1 hz2
            go_wp2
            go_quiet (fail)
            go_wp2
            go_roundw
            case rel => exact ⟨x + 1, by omega, by go_num, _, rfl⟩
            case measure => simp [intOf]; omega
        · go_wp2
          go_ret
          exact ⟨rfl, H0.trans (below_drewN (hon.2.mono (by omega)) n)⟩

end Go.Proofs.Qxb6615561a
