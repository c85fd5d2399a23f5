/-
  THE WALK of seat b6615576a: zzBuildClock.
-/
import Derived.Test.Qxb6615576aBuildR
import Derived.Deep.RegionHeld3
import Derived.Deep.DeepCutAuto
import Derived.Deep.CutBlock
import Derived.Deep.LoopGhost
import Derived.Deep.AppendLies
namespace Go.Proofs.Qxb6615576a
open Go.RowKit Go.Maps

set_option maxHeartbeats 4000000 in
set_option maxRecDepth 100000 in
theorem build_core (a : Option Addr) (b off len cap : Nat) (ds : List (Int × Int)) (w : World) (hl : len ≤ 4096) (hz : ds.length = len) (ha : 0 < len → a = some ⟨b, off, none⟩ ∧ b < w.heap.size) (hc : Dots w b off ds)
    (hwf : ∀ d ∈ ds, (0 ≤ d.1 ∧ d.1 ≤ 18446744073709551615) ∧ (0 ≤ d.2 ∧ d.2 ≤ 18446744073709551615)) :
    Calls Try.prog 8 #[.slice a len cap] w fun e w' => ∃ bc, e = .returned (.pointer (some ⟨bc, 0, none⟩)) ∧ Clk w' bc ds ∧ Below w.heap.size w w' := by
  obtain ⟨i37, hi37, hz370, hz371, hz372⟩ := info_parts Try.info37
  have hmm := @run_makeMap Try.prog
  have HW : Hid (∀ d ∈ ds, (0 ≤ d.1 ∧ d.1 ≤ 18446744073709551615) ∧ (0 ≤ d.2 ∧ d.2 ≤ 18446744073709551615)) := hwf
  clear hwf
  go_enter Try.func8, Try.ntmps8
  go_wp2_with (at_make; refine wpList_make_own _ rfl (.const (.int .i64 0)) (.tmp 20) 25 rfl w.heap.size 37 i37 (.agg #[.int .u64 0, .int .u64 0]) 2 Try.underlying25 hi37 hz370 hz371 .i64 .i64 (len : Int) len rfl rfl rfl (by rw [hz372]; omega) (by unfold maxLen; omega) (Nat.le_refl _) ?_; intro w1 hown hgrow)
  have st : Own2 w1 w.heap.size 37 (.slice (some ⟨w.heap.size, 0, none⟩) 0 len) (flt ds 0) := hown
  have bl : Below w.heap.size w w1 := (Below.refl _ _).grown hgrow (Nat.le_refl _) (by simp)
  clear hown hgrow
  go_loopw [3, 4] (fun v i wr => ∃ k m : Nat, k ≤ len ∧ i = .int .i64 k ∧ v = .slice (some ⟨w.heap.size, 0, none⟩) m len ∧ (flt ds k).length = m ∧ Own2 wr w.heap.size 37 (.slice (some ⟨w.heap.size, 0, none⟩) m len) (flt ds k) ∧ Below w.heap.size w wr ∧ w.heap.size < wr.heap.size) (fun _ i _ => len - (intOf i).toNat)
  case atStart => exact ⟨0, 0, Nat.zero_le _, rfl, rfl, rfl, st, bl, (st.lt w.heap.size rfl).2⟩
  case round =>
    obtain ⟨k, m, hk, rfl, rfl, hm, hown, hbel, hbig⟩ := hrel
    clear st bl
    have hmk : m ≤ k := by rw [← hm]; exact flt_le ds k
    by_cases hlt : k < len
    · obtain ⟨ea, hb⟩ := ha (by omega)
      subst ea
      clear ha
      have hk' : k < ds.length := by omega
      obtain ⟨c1, c2⟩ := (hc.below hbel hb) k hk'
      have HM : Hid ((flt ds k).length = m) := hm
      clear hm hc
      by_cases hd : ((Plain.at' ds k).2 != 0) = true
      · have HF : Hid (flt ds (k + 1) = flt ds k ++ [Plain.at' ds k]) := flt_yes hk' hd
        generalize Plain.at' ds k = d at *
        have hown' : wr.ownsRow w.heap.size 37 2 (.slice (some ⟨w.heap.size, 0, none⟩) m len) m (flat (flt ds k)) := by
          have := hown; unfold Own2 at this; rw [HM.out] at this; exact this
        clear hown
        go_wp2_with (at_builtin; refine wpList_append_fits _ rfl (.tmp 34) (.tmp 39) 25 rfl w.heap.size 37 i37 2 Try.underlying25 hi37 hz371 w.heap.size m len _ rfl (World.ownsRow.alloc hown' _) ⟨wr.heap.size, 0, none⟩ 1 1 [.int .u64 d.1, .int .u64 d.2] rfl rfl ?c1 ?c2 ?c3 ?_)
        case c1 => exact cell_two_new _ _ _ _
        case c2 => intro u hu; simp at hu; rcases hu with rfl | rfl <;> rfl
        case c3 => omega
        · intro w2 hown2 hgrow2
          have hR := own2_snoc (d := d) HM.out (by omega) (Nat.le_refl _) hbel hown2 hgrow2
          have hbig2 : w.heap.size < w2.heap.size := by have := hgrow2.size; simp at this; omega
          clear hown2 hgrow2 hown'
          go_wp2
          go_roundw
          case rel => exact ⟨k + 1, m + 1, by omega, by go_num, by go_num, by rw [HF.out, List.length_append, HM.out]; rfl, by rw [HF.out]; exact hR.1, hR.2, hbig2⟩
          case measure => simp [intOf]; omega
      · have hd' : ((Plain.at' ds k).2 != 0) = false := by simpa using hd
        have HF : Hid (flt ds (k + 1) = flt ds k) := flt_no hk' hd'
        clear hd
        generalize Plain.at' ds k = d at *
        go_wp2
        go_roundw
        case rel => exact ⟨k + 1, m, by omega, by go_num, rfl, by rw [HF.out]; exact HM.out, by rw [HF.out]; exact hown, hbel, hbig⟩
        case measure => simp [intOf]; omega
    · have e : k = len := by omega
      subst e
      obtain ⟨X0, hX0⟩ : ∃ X0, flt ds k = X0 := ⟨_, rfl⟩
      rw [hX0] at hm hown
      have HX : Hid (flt ds k = X0) := hX0
      have st : SoR w m k X0 X0 wr := ⟨hm, fun _ => Iff.rfl, hown, hbel, hbig⟩
      clear ha hc hm hown hbel hX0 hlt hi37 hz370 hz371 hz372 i37
      go_wp2_with fail
      go_loopw [5] (fun i wr => ∃ (i' : Nat) (xs : List (Int × Int)), 1 ≤ i' ∧ i' ≤ m + 1 ∧ i = .int .i64 i' ∧ Plain.Srt xs i' ∧ SoR w m k X0 xs wr) (fun i _ => m - (intOf i).toNat)
      case atStart => exact ⟨1, X0, Nat.le_refl _, by omega, rfl, fun a b h1 h2 => by omega, st⟩
      case round =>
        obtain ⟨i, xs, hi1, him, rfl, hsrt, so⟩ := hrel
        clear st
        by_cases hlt : i < m
        · have hins := Plain.ins_start hsrt
          clear hsrt
          go_wp2_with fail
          go_loopw [6] (fun j wr => ∃ (j' : Nat) (xs : List (Int × Int)), j' ≤ i ∧ j = .int .i64 j' ∧ Plain.Ins xs i j' ∧ SoR w m k X0 xs wr) (fun j _ => (intOf j).toNat)
          case atStart => exact ⟨i, xs, Nat.le_refl _, rfl, hins, so⟩
          case round =>
            clear hins so
            obtain ⟨j, xs, hji, rfl, hins, so⟩ := hrel
            by_cases hj : 0 < j
            · obtain ⟨q, rfl⟩ : ∃ q, j = q + 1 := ⟨j - 1, by omega⟩
              obtain ⟨c1, c2⟩ := so.cells (k := q + 1) (by omega)
              obtain ⟨e1, e2⟩ := so.cells (k := q) (by omega)
              obtain ⟨R, hR⟩ : ∃ R, Plain.lessB (Plain.at' xs (q + 1)) (Plain.at' xs q) = R := ⟨_, rfl⟩
              have HR : Hid (Plain.lessB (Plain.at' xs (q + 1)) (Plain.at' xs q) = R) := hR
              clear hR
              obtain ⟨d1, hd1⟩ : ∃ d, Plain.at' xs (q + 1) = d := ⟨_, rfl⟩
              obtain ⟨d2, hd2⟩ : ∃ d, Plain.at' xs q = d := ⟨_, rfl⟩
              rw [hd1] at c1 c2
              rw [hd2] at e1 e2
              have HL : Hid (∀ w', Calls Try.prog 11 #[.agg #[.int .u64 d1.1, .int .u64 d1.2], .agg #[.int .u64 d2.1, .int .u64 d2.2]] w' fun e w'' => e = .returned (.bool R) ∧ Below w'.heap.size w' w'') := by
                intro w'
                rw [← HR.out, hd1, hd2]
                exact less_core d1.1 d1.2 d2.1 d2.2 w'
              have HD1 : Hid (Plain.at' xs (q + 1) = d1) := hd1
              have HD2 : Hid (Plain.at' xs q = d2) := hd2
              clear hd1 hd2
              have hI : (0 : Int) < (q : Int) + 1 := by omega
              have hgd : decide ((0 : Int) < (q : Int) + 1) = true := decide_eq_true hI
              have hI2 : (q : Int) + 1 < (m : Int) := by omega
              have hI3 : (0 : Int) ≤ (q : Int) := by omega
              have hI4 : (0 : Int) ≤ (q : Int) + 1 := by omega
              have hI5 : (q : Int) < (m : Int) := by omega
              have hwr1 : IntKind.i64.wrap (q : Int) = (q : Int) := wrapi (by omega) (by omega)
              have hbg := so.big
              go_wp2
              go_region_held3 (fun w' => w'.cell? ⟨w.heap.size, (q + 1) * 2, none⟩ = some (.int .u64 d1.1) ∧ w'.cell? ⟨w.heap.size, (q + 1) * 2 + 1, none⟩ = some (.int .u64 d1.2) ∧ w'.cell? ⟨w.heap.size, q * 2, none⟩ = some (.int .u64 d2.1) ∧ w'.cell? ⟨w.heap.size, q * 2 + 1, none⟩ = some (.int .u64 d2.2)) (go_keep) (first | (go_at_call 11; refine Calls.mono (HL.out _) ?_; rintro e w2 ⟨rfl, hb2⟩; have f1 : w2.cell? ⟨w.heap.size, (q + 1) * 2, none⟩ = some (.int .u64 d1.1) := (hb2.cell (p := ⟨w.heap.size, (q + 1) * 2, none⟩) (by exact hbg)).trans c1; have f2 : w2.cell? ⟨w.heap.size, (q + 1) * 2 + 1, none⟩ = some (.int .u64 d1.2) := (hb2.cell (p := ⟨w.heap.size, (q + 1) * 2 + 1, none⟩) (by exact hbg)).trans c2; have f3 : w2.cell? ⟨w.heap.size, q * 2, none⟩ = some (.int .u64 d2.1) := (hb2.cell (p := ⟨w.heap.size, q * 2, none⟩) (by exact hbg)).trans e1; have f4 : w2.cell? ⟨w.heap.size, q * 2 + 1, none⟩ = some (.int .u64 d2.2) := (hb2.cell (p := ⟨w.heap.size, q * 2 + 1, none⟩) (by exact hbg)).trans e2))
              have hb2' : Below wr.heap.size wr w2 := ((Below.refl _ wr).drew).trans hb2
              have so2 := so.below hb2' (Nat.le_refl _)
              clear hb2 hb2' so c1 c2 e1 e2 hgd hI hI2 hI3 hI4 hI5 hwr1 hbg
              cases R
              · have hsr := Plain.ins_end hins (.inr HR.out)
                clear f1 f2 f3 f4 hins
                go_wp2
                go_roundw
                case rel => exact ⟨i + 1, xs, by omega, by omega, by go_num, hsr, so2⟩
                case measure => simp [intOf]; omega
              · have hs2 := Plain.ins_step hins (by omega) (by rw [so2.ln]; exact hlt) hji HR.out
                have g1 := so2.free ((q + 1) * 2)
                have g2 := so2.free ((q + 1) * 2 + 1)
                have g3 := so2.free (q * 2)
                have g4 := so2.free (q * 2 + 1)
                have hbg2 := so2.big
                clear hins
                go_wp2
                go_roundw
                case rel => exact ⟨q, Plain.swap xs (q + 1), by omega, rfl, by rw [Nat.add_sub_cancel] at hs2; exact hs2, so2.swap (by omega) HD1.out HD2.out _⟩
                case measure => simp [intOf]
            · have e : j = 0 := by omega
              subst e
              have hsr := Plain.ins_end hins (.inl rfl)
              have hgd : decide ((0 : Int) < (0 : Int)) = false := by decide
              clear hins
              go_wp2
              go_quiet (fail)
              go_wp2
              go_roundw
              case rel => exact ⟨i + 1, xs, by omega, by omega, by go_num, hsr, so.below (below_drewN (Below.refl _ _) nq) (Nat.le_refl _)⟩
              case measure => simp [intOf]; omega
        · have hsm : Plain.Srt xs m := fun a b h1 h2 => hsrt a b h1 (by omega)
          have hxl := so.ln
          rw [← hxl] at hsm
          have HS : Hid (Plain.Srt xs xs.length) := hsm
          have HXL : Hid (xs.length = m) := hxl
          have HMem : Hid (∀ d, d ∈ xs ↔ d ∈ X0) := so.mem
          have st := BR.start so
          clear hsrt hsm hxl
          go_wp2_with fail
          generalize wr.heap.size = M1 at st ⊢
          clear so hmm hbig
          go_loopg [10] m (fun g i wy => ∃ (i' n : Nat) (f1 : Int → Int) (V : Int → Value) (f2 : Int → List (Int × Int)), i' ≤ m ∧ g = m - i' ∧ n ≤ 2 * i' ∧ i = .int .i64 i' ∧ Plain.Grp xs i' f1 f2 ∧ BR w m k M1 (M1 + 1) n xs f1 V f2 wy)
          case atStart => exact ⟨0, 0, _, _, _, Nat.zero_le _, by omega, by omega, rfl, Plain.grp_start xs, st⟩
          case round =>
            clear st
            obtain ⟨wG, ewG⟩ : ∃ wG, wG = wr := ⟨wr, rfl⟩
            subst ewG
            obtain ⟨i, n, f1, V, f2, him, rfl, hni, rfl, hg, br⟩ := hrel
            by_cases hlt : i < m
            · obtain ⟨c1, c2⟩ := br.cells HXL.out hlt
              obtain ⟨r, hr⟩ : ∃ r, (Plain.at' xs i).1 = r := ⟨_, rfl⟩
              rw [hr] at c1
              have HRr : Hid ((Plain.at' xs i).1 = r) := hr
              clear hr c2
              go_upto_block 8 with fail
              go_cut [12] (fun s12 wx => wG = wx ∧ ∃ j : Nat, i < j ∧ j ≤ m ∧ s12 = .int .i64 j ∧ Hid (∀ t, i ≤ t → t < j → (Plain.at' xs t).1 = r) ∧ Hid (j < m → (Plain.at' xs j).1 ≠ r))
              case first =>
                go_wp2_with fail
                go_loop [12] (fun j => ∃ j' : Nat, i ≤ j' ∧ j' ≤ m ∧ j = .int .i64 j' ∧ Hid (∀ t, i ≤ t → t < j' → (Plain.at' xs t).1 = r)) (fun j => m - (intOf j).toNat)
                case atStart => exact ⟨i, Nat.le_refl _, by omega, rfl, fun t h1 h2 => by omega⟩
                case round =>
                  obtain ⟨j, hij, hjm, rfl, HJ⟩ := hrel
                  by_cases hjr : j < m ∧ (Plain.at' xs j).1 = r
                  · obtain ⟨hjlt, hjr⟩ := hjr
                    obtain ⟨e1, e2⟩ := br.cells HXL.out hjlt
                    rw [hjr] at e1
                    have HJ2 : Hid (∀ t, i ≤ t → t < j + 1 → (Plain.at' xs t).1 = r) := by
                      intro t h1 h2
                      by_cases e : t = j
                      · rw [e]; exact hjr
                      · exact HJ.out t h1 (by omega)
                    clear hjr e2
                    go_wp2
                    go_round
                    case rel => exact ⟨j + 1, by omega, by omega, by go_num, HJ2⟩
                    case measure => simp [intOf]; omega
                  · have HE : Hid (j < m → (Plain.at' xs j).1 ≠ r) := fun h1 h2 => hjr ⟨h1, h2⟩
                    have hij2 : i < j := by
                      rcases Nat.lt_or_ge i j with h | h
                      · exact h
                      · have e : j = i := by omega
                        exact absurd ⟨by omega, by rw [e]; exact HRr.out⟩ hjr
                    clear hjr
                    by_cases hjlt : j < m
                    · obtain ⟨e1, e2⟩ := br.cells HXL.out hjlt
                      have hb1 : ((Plain.at' xs j).1 == r) = false := beq_eq_false_iff_ne.2 (HE.out hjlt)
                      clear e2
                      generalize (Plain.at' xs j).1 = r' at e1 hb1
                      go_wp2
                      go_meet
                      exact ⟨rfl, j, hij2, hjm, rfl, HJ, HE⟩
                    · go_wp2
                      go_meet
                      exact ⟨rfl, j, hij2, hjm, rfl, HJ, HE⟩
              case rest =>
                obtain ⟨rfl, j, hij, hjm, rfl, HJ, HE⟩ := hcut
                clear c1
                obtain ⟨i23, hi23, hz230, hz231, hz232⟩ := info_parts Try.info23
                go_wp2_with (at_make; refine wpList_make_own _ rfl (.const (.int .i64 0)) (.tmp 110) 41 rfl wG.heap.size 23 i23 (.int .u64 0) 1 Try.underlying41 hi23 hz230 hz231 .i64 .i64 ((j : Int) - (i : Int)) (j - i) rfl rfl (by omega) (by rw [hz232]; omega) (by unfold maxLen; omega) (Nat.le_refl _) ?_; intro w5 hown hgrow)
                have st := CsR.start hown hgrow
                clear hown hgrow
                go_loopw [13, 14] (fun v t wy => ∃ (t' q : Nat) (cs : List Int), i ≤ t' ∧ t' ≤ j ∧ t = .int .i64 t' ∧ v = .slice (some ⟨wG.heap.size, 0, none⟩) q (j - i) ∧ Hid (Plain.Cs xs i t' cs) ∧ CsR wG (j - i) q cs wy) (fun _ t _ => j - (intOf t).toNat)
                case atStart => exact ⟨i, 0, [], Nat.le_refl _, by omega, rfl, rfl, Plain.cs_start xs i, st⟩
                case round =>
                  clear st
                  obtain ⟨t, q, cs, hit, htj, rfl, rfl, HC, cr⟩ := hrel
                  have hqt := HC.out.len
                  rw [cr.ln] at hqt
                  by_cases htl : t < j
                  · have hbg := br.big
                    have e2 : wr.cell? ⟨w.heap.size, t * 2 + 1, none⟩ = some (.int .u64 (Plain.at' xs t).2) := (cr.bel.cell (p := ⟨w.heap.size, t * 2 + 1, none⟩) (by exact hbg)).trans (br.cells HXL.out (by omega)).2
                    have HC2 : Hid (Plain.Cs xs i (t + 1) (Plain.dd cs (Plain.at' xs t).2)) := by
                      refine Plain.cs_step HC.out hit (fun h => ?_)
                      refine Plain.srt_counter HS.out (by omega) (by rw [HXL.out]; omega) ?_
                      rw [HJ.out (t - 1) (by omega) (by omega), HJ.out t hit htl]
                    generalize (Plain.at' xs t).2 = c at *
                    by_cases hq : q = 0
                    · subst hq
                      have HD : Hid (Plain.dd cs c = cs ++ [c]) := by show _ = _; unfold Plain.dd; rw [if_pos (.inl cr.ln)]
                      go_wp2
                      go_quiet (fail)
                      go_wp2_with (at_builtin; refine wpList_append_fits _ rfl (.tmp 135) (.tmp 141) 41 rfl wG.heap.size 23 i23 1 Try.underlying41 hi23 hz231 wG.heap.size 0 (j - i) _ rfl (cr.rowA _ nq) ⟨wr.heap.size, 0, none⟩ 1 1 [.int .u64 c] rfl rfl ?d1 ?d2 ?d3 ?_)
                      case d1 => first | exact cell_one_new _ _ _ | exact cell_one_drewN _ _ _ nq
                      case d2 => intro u hu; simp at hu; subst hu; rfl
                      case d3 => omega
                      · intro w6 hown6 hgrow6
                        have cr6 := cr.snoc hown6 hgrow6
                        clear hown6 hgrow6
                        go_wp2
                        go_roundw
                        case rel => exact ⟨t + 1, 1, cs ++ [c], by omega, by omega, by go_num, rfl, by rw [← HD.out]; exact HC2.out, cr6⟩
                        case measure => simp [intOf]; omega
                    · obtain ⟨p, rfl⟩ : ∃ p, q = p + 1 := ⟨q - 1, by omega⟩
                      have e3 : wr.cell? ⟨wG.heap.size, p, none⟩ = some (.int .u64 (cs.getD p 0)) := cr.cell (by omega)
                      obtain ⟨z, hz'⟩ : ∃ z, cs.getD p 0 = z := ⟨_, rfl⟩
                      rw [hz'] at e3
                      have HZ : Hid (cs.getD (cs.length - 1) 0 = z) := by show _ = _; rw [cr.ln, Nat.add_sub_cancel]; exact hz'
                      have hI1 : (0 : Int) ≤ (p : Int) := by omega
                      have hI2 : (p : Int) < (p : Int) + 1 := by omega
                      have hq0 : ((p : Int) + 1 == 0) = false := beq_eq_false_iff_ne.2 (by omega)
                      have hwr1 : IntKind.i64.wrap (p : Int) = (p : Int) := wrapi (by omega) (by omega)
                      clear hz' hq
                      by_cases hzc : z = c
                      · have HD : Hid (Plain.dd cs c = cs) := by
                          show _ = _; unfold Plain.dd
                          rw [if_neg]
                          intro h
                          rcases h with h | h
                          · rw [cr.ln] at h; omega
                          · exact h (HZ.out.trans hzc)
                        subst hzc
                        go_wp2
                        go_quiet (fail)
                        go_wp2
                        go_roundw
                        case rel => exact ⟨t + 1, p + 1, cs, by omega, by omega, by go_num, rfl, by rw [← HD.out]; exact HC2.out, cr.drewN nq⟩
                        case measure => simp [intOf]; omega
                      · have HD : Hid (Plain.dd cs c = cs ++ [c]) := by
                          show _ = _; unfold Plain.dd
                          rw [if_pos]
                          exact .inr (fun h => hzc (HZ.out.symm.trans h))
                        have hzb : (z != c) = true := by rw [bne_iff_ne]; exact hzc
                        clear hzc
                        go_wp2
                        go_quiet (fail)
                        go_wp2_with (at_builtin; refine wpList_append_fits _ rfl (.tmp 135) (.tmp 141) 41 rfl wG.heap.size 23 i23 1 Try.underlying41 hi23 hz231 wG.heap.size (p + 1) (j - i) _ rfl (cr.rowA _ nq) ⟨wr.heap.size, 0, none⟩ 1 1 [.int .u64 c] rfl rfl ?d4 ?d5 ?d6 ?_)
                        case d4 => first | exact cell_one_new _ _ _ | exact cell_one_drewN _ _ _ nq
                        case d5 => intro u hu; simp at hu; subst hu; rfl
                        case d6 => omega
                        · intro w6 hown6 hgrow6
                          have cr6 := cr.snoc hown6 hgrow6
                          clear hown6 hgrow6
                          go_wp2
                          go_roundw
                          case rel => exact ⟨t + 1, p + 1 + 1, cs ++ [c], by omega, by omega, by go_num, rfl, by rw [← HD.out]; exact HC2.out, cr6⟩
                          case measure => simp [intOf]; omega
                  · have etj : t = j := by omega
                    subst etj
                    have up := UpR.of br cr
                    obtain ⟨gc, egc⟩ : ∃ gc, wG.heap.size = gc := ⟨_, rfl⟩
                    rw [egc] at up ⊢
                    have hrwf : (Lit.int .u64 r).wf = true := by
                      have hm1 : Plain.at' xs i ∈ xs := Plain.mem_at.2 ⟨i, by rw [HXL.out]; omega, rfl⟩
                      have hm2 := (HMem.out _).1 hm1
                      rw [← HX.out] at hm2
                      have hm3 := HW.out _ (List.mem_of_mem_take (List.mem_filter.1 hm2).1)
                      rw [HRr.out] at hm3
                      exact WalkArith.wf_u64 (by omega)
                    have HWf : Hid ((Lit.int .u64 r).wf = true) := hrwf
                    have hgz := Plain.grp_zero HS.out hg (by rw [HXL.out]; exact hlt)
                    rw [HRr.out] at hgz
                    have HG0 : Hid (f1 r = 0 ∧ f2 r = []) := hgz
                    have HGr : Hid (Plain.Grp xs i f1 f2) := hg
                    clear cr br egc hrwf hgz hg hi23 hz230 hz231 hz232 i23 htl
                    go_upto_block 12 with fail
                    go_cut [15] (fun s15 wx => wr = wx ∧ ∃ k0 : Nat, k0 ≤ q ∧ s15 = .int .i64 k0 ∧ Hid (Plain.Pre cs k0))
                    case first =>
                      go_wp2_with fail
                      go_loop [15] (fun s15 => ∃ k0 : Nat, k0 ≤ q ∧ s15 = .int .i64 k0 ∧ Hid (Plain.Pre cs k0)) (fun s15 => q - (intOf s15).toNat)
                      case atStart => exact ⟨0, Nat.zero_le _, rfl, Plain.pre_start cs⟩
                      case round =>
                        obtain ⟨k0, hk0, rfl, HP⟩ := hrel
                        by_cases hkq : k0 < q
                        · have e4 := up.cell hkq
                          obtain ⟨z, hzz⟩ : ∃ z, cs.getD k0 0 = z := ⟨_, rfl⟩
                          rw [hzz] at e4
                          by_cases hze : z = (k0 : Int) + 1
                          · have HP2 : Hid (Plain.Pre cs (k0 + 1)) := Plain.pre_step HP.out (by rw [up.ln]; exact hkq) (hzz.trans hze)
                            subst hze
                            clear hzz
                            go_wp2
                            go_round
                            case rel => exact ⟨k0 + 1, by omega, by go_num, HP2⟩
                            case measure => simp [intOf]; omega
                          · have hzb : (z == (k0 : Int) + 1) = false := beq_eq_false_iff_ne.2 hze
                            clear hzz hze
                            go_wp2
                            go_meet
                            exact ⟨rfl, k0, hk0, rfl, HP⟩
                        · go_wp2
                          go_meet
                          exact ⟨rfl, k0, hk0, rfl, HP⟩
                    case rest =>
                      obtain ⟨rfl, k0, hk0, rfl, HP⟩ := hcut
                      go_upto_if 160 with fail
                      go_cut [15] (fun s15 wx => s15 = .int .i64 k0 ∧ UpR w m k M1 (M1 + 1) (n + 1) gc (t - i) q xs (Plain.upd f1 r (k0 : Int)) V f2 cs wx)
                      case first =>
                        by_cases hkp : 0 < k0
                        · obtain ⟨D, hown1, hat1⟩ := up.br.m1
                          have HU : Hid (UpR w m k M1 (M1 + 1) n gc (t - i) q xs f1 V f2 cs wr) := up
                          clear up
                          go_wp2_with (at_mapUpdate; refine wpList_mapUpdate_own _ rfl _ _ _ 39 rfl 28 23 law28 Try.underlying39 rdI M1 n D rfl hown1 (by unfold maxLen; omega) _ _ (.int .u64 r) rfl rfl (keyOf_int_mk Try.underlying28 HWf.out) (.lit (.int .u64 (k0 : Int))) [] rfl ?_; intro w8 hown8 hgrow8)
                          go_meet
                          exact ⟨rfl, HU.out.put1 HWf.out hown1 hat1 hown8 hgrow8⟩
                        · have e0 : k0 = 0 := by omega
                          subst e0
                          go_wp2
                          go_meet
                          exact ⟨rfl, up.same1 HG0.out.1⟩
                      case rest =>
                        clear up
                        obtain ⟨rfl, up⟩ := hcut
                        obtain ⟨i44, hi44, hz440, hz441, hz442⟩ := info_parts Try.info44
                        have HAsc : Hid (Plain.Asc cs) := HC.out.asc
                        have HB : Hid (∀ t, t < q → 0 ≤ cs.getD t 0 ∧ cs.getD t 0 ≤ 18446744073709551615) := by
                          intro t' ht'
                          have hmm1 : cs.getD t' 0 ∈ cs := Plain.mem_getD.2 ⟨t', by rw [up.ln]; exact ht', rfl⟩
                          obtain ⟨y, hy1, hy2, hy3⟩ := (HC.out.mem _).1 hmm1
                          have hm1 : Plain.at' xs y ∈ xs := Plain.mem_at.2 ⟨y, by rw [HXL.out]; omega, rfl⟩
                          have hm2 := (HMem.out _).1 hm1
                          rw [← HX.out] at hm2
                          have hm3 := HW.out _ (List.mem_of_mem_take (List.mem_filter.1 hm2).1)
                          rw [← hy3]
                          exact hm3.2
                        go_wp2_with fail
                        go_loopg [15, 16] (q - k0) (fun g s15 s16 wy => ∃ (t' : Nat) (sp : List (Int × Int)) (a' : Option Addr) (cap' : Nat), k0 ≤ t' ∧ t' ≤ q ∧ g = q - t' ∧ s15 = .int .i64 t' ∧ s16 = .slice a' sp.length cap' ∧ Hid (Plain.Sp cs k0 t' sp) ∧ SpR wc a' cap' sp wy)
                        case atStart => exact ⟨k0, [], none, 0, Nat.le_refl _, hk0, rfl, rfl, rfl, Plain.sp_start cs k0, SpR.start wc⟩
                        case round =>
                          obtain ⟨k1, sp, a1, cap1, hk01, hk1q, rfl, rfl, rfl, HSp, sr⟩ := hrel
                          by_cases hk1 : k1 < q
                          · have up2 := up.below sr.bel (Nat.le_refl _)
                            have e5 := up2.cell hk1
                            obtain ⟨fs, hfs⟩ : ∃ z, cs.getD k1 0 = z := ⟨_, rfl⟩
                            have hrun0 := Plain.run_start (cs := cs) (k1 := k1) (by rw [up.ln]; exact hk1)
                            rw [hfs] at e5 hrun0
                            have HR0 : Hid (Plain.Run cs k1 (k1 + 1) fs fs) := hrun0
                            have HFs : Hid (cs.getD k1 0 = fs) := hfs
                            clear hfs hrun0
                            go_upto_block 16 with fail
                            go_cut [15, 18] (fun s15 s18 wx => wr = wx ∧ ∃ (k2 : Nat) (la : Int), k1 < k2 ∧ k2 ≤ q ∧ s15 = .int .i64 k2 ∧ s18 = .int .u64 la ∧ Hid (Plain.Run cs k1 k2 fs la))
                            case first =>
                              go_wp2_with fail
                              go_loop [15, 18] (fun s15 s18 => ∃ (k2 : Nat) (la : Int), k1 < k2 ∧ k2 ≤ q ∧ s15 = .int .i64 k2 ∧ s18 = .int .u64 la ∧ Hid (Plain.Run cs k1 k2 fs la)) (fun s15 _ => q - (intOf s15).toNat)
                              case atStart => exact ⟨k1 + 1, fs, by omega, by omega, by go_num, rfl, HR0⟩
                              case round =>
                                obtain ⟨k2, la, hk12, hk2q, rfl, rfl, HRn⟩ := hrel
                                by_cases hk2 : k2 < q
                                · have e6 := up2.cell hk2
                                  have hbd := HB.out k2 hk2
                                  have hla : la < cs.getD k2 0 := by
                                    have := HAsc.out (k2 - 1) k2 (by omega) (by rw [up.ln]; exact hk2)
                                    rwa [Plain.run_last HRn.out] at this
                                  have hla0 : 0 ≤ la := by
                                    have := HB.out (k2 - 1) (by omega)
                                    rw [Plain.run_last HRn.out] at this
                                    exact this.1
                                  have HSt : Hid (cs.getD k2 0 = la + 1 → Plain.Run cs k1 (k2 + 1) fs (cs.getD k2 0)) := fun h => Plain.run_step HRn.out (by rw [up.ln]; exact hk2) h
                                  generalize cs.getD k2 0 = z at *
                                  have hla1 : la + 1 ≤ 18446744073709551615 := by omega
                                  by_cases hze : z = la + 1
                                  · subst hze
                                    have HR2 : Hid (Plain.Run cs k1 (k2 + 1) fs (la + 1)) := HSt.out rfl
                                    clear HSt hbd
                                    go_wp2
                                    go_round
                                    case rel => exact ⟨k2 + 1, la + 1, by omega, by omega, by go_num, rfl, HR2⟩
                                    case measure => simp [intOf]; omega
                                  · have hzb : (z == la + 1) = false := beq_eq_false_iff_ne.2 hze
                                    clear hze HSt hbd
                                    go_wp2
                                    go_meet
                                    exact ⟨rfl, k2, la, hk12, hk2q, rfl, rfl, HRn⟩
                                · go_wp2
                                  go_meet
                                  exact ⟨rfl, k2, la, hk12, hk2q, rfl, rfl, HRn⟩
                            case rest =>
                              obtain ⟨rfl, k2, la, hk12, hk2q, rfl, rfl, HRn⟩ := hcut
                              clear e5 up2
                              go_wp2_with fail
                              refine (span_core fs la _).mono ?_
                              rintro e w9 ⟨rfl, hb9⟩
                              have o9 : w9.ownsRow wc.heap.size 44 2 (.slice a1 sp.length cap1) sp.length (flat sp) := sr.own.below hb9 (Nat.le_refl _)
                              have hln := HSp.out.len
                              have s91 := sr.bel.size
                              have s92 := hb9.size
                              go_wp2_with (at_builtin; refine wpList_append_lies _ rfl (.tmp 195) (.tmp 199) 42 rfl wc.heap.size 44 i44 (.agg #[.int .u64 0, .int .u64 0]) 2 16 Try.underlying42 hi44 hz440 hz441 hz442 rfl (by omega) _ sp.length (flat sp) rfl (World.ownsRow.alloc o9 _) ⟨w9.heap.size, 0, none⟩ 1 1 [.int .u64 fs, .int .u64 la] rfl rfl ?e1 ?e2 (by omega) ?e3 ?e4 ?e5 (w9.heap.size + 1) (by simp) ?_)
                              case e1 => first | exact cell_two_new _ _ _ _ | (simp [go_sem]; done)
                              case e2 => intro u hu; simp at hu; rcases hu with rfl | rfl <;> rfl
                              case e3 => unfold maxLen; omega
                              case e4 => omega
                              case e5 => simp; omega
                              · intro g9 cap9 w10 hown10 hgrow10 _ _
                                have sr2 := sr.snoc (d := (fs, la)) hb9 hown10 hgrow10
                                have HSp2 : Hid (Plain.Sp cs k0 k2 (sp ++ [(fs, la)])) := Plain.sp_step HAsc.out HSp.out hk01 HRn.out
                                clear hown10 hgrow10 o9 hb9
                                go_wp2
                                go_roundg (q - k2)
                                case measure => omega
                                case rel => exact ⟨k2, sp ++ [(fs, la)], _, _, by omega, hk2q, rfl, rfl, by rw [List.length_append]; rfl, HSp2, sr2⟩
                          · have ek1 : k1 = q := by omega
                            have HGn : Hid (Plain.Grp xs t (Plain.upd f1 r (k0 : Int)) (Plain.upd f2 r sp)) := by
                              refine Plain.grp_step HS.out HGr.out (by rw [HXL.out]; exact hlt) HRr.out hij HJ.out (fun h => HE.out (by rw [← HXL.out]; exact h)) HC.out HP.out ?_
                              rw [up.ln, ← ek1]; exact HSp.out
                            have hln := HSp.out.len
                            subst ek1
                            have up2 := up.below sr.bel (Nat.le_refl _)
                            clear hi44 hz440 hz441 hz442 i44
                            by_cases hsp : sp = []
                            · subst hsp
                              have br2 := up2.br.same2 (r := r) HG0.out.2
                              clear up up2
                              go_wp2
                              go_roundg (m - t)
                              case measure => omega
                              case rel => exact ⟨t, n + 1 + 1, _, _, _, hjm, rfl, by omega, rfl, HGn.out, br2⟩
                            · have hspl : 0 < sp.length := List.length_pos_iff.2 hsp
                              obtain ⟨D, hown2, hat2⟩ := up2.br.m2
                              obtain ⟨dd, hdd⟩ := rdS_some (n := sp.length) (c := cap1) sr.form
                              have HU : Hid (BR w m k M1 (M1 + 1) (n + 1) xs (Plain.upd f1 r (k0 : Int)) V f2 wr) := up2.br
                              have HDD : Hid (rdS (.slice a1 sp.length cap1) = some (dd, [])) := hdd
                              have HRd : Hid (RdD wr (.slice a1 sp.length cap1) sp) := sr.rd
                              clear up up2 hdd hsp
                              go_wp2_with (at_mapUpdate; refine wpList_mapUpdate_own _ rfl _ _ _ 40 rfl 28 42 law28 Try.underlying40 rdS (M1 + 1) (n + 1) D rfl hown2 (by unfold maxLen; omega) _ _ (.int .u64 r) rfl rfl (keyOf_int_mk Try.underlying28 HWf.out) dd [] HDD.out ?_; intro w12 hown12 hgrow12)
                              have br2 := HU.out.put2' HWf.out hown2 hat2 HDD.out hown12 hgrow12 HRd.out (by omega)
                              clear hown12 hgrow12 hown2 hat2
                              go_wp2
                              go_roundg (m - t)
                              case measure => omega
                              case rel => exact ⟨t, n + 1 + 1, _, _, _, hjm, rfl, by omega, rfl, HGn.out, br2⟩
            · have eim : i = m := by omega
              have hfin := br.clock (ds := ds) (by rw [HXL.out, ← eim]; exact hg) (fun d => by
                rw [HMem.out d, ← HX.out]
                unfold flt
                rw [List.take_of_length_le (by omega)])
              clear br hg
              go_wp2_with fail
              refine (clock_core M1 (M1 + 1) _).mono ?_
              rintro e w13 ⟨rfl, hw13⟩
              subst hw13
              go_wp2
              go_ret
              exact ⟨_, rfl, hfin.1, hfin.2⟩

end Go.Proofs.Qxb6615576a
