/-
  PARTS for the walk of zzBuildClock (seat b6615576a): what its loops keep.
-/
import Derived.Test.Qxb6615576aObserves
namespace Go.Proofs.Qxb6615576a
open Go.RowKit Go.Maps

theorem Try.info37 : (Try.prog.info? 37).map (fun i => (i.zero, i.size, i.bytes)) = some (some (.agg #[.int .u64 0, .int .u64 0]), 2, 16) := by kernel_rfl
theorem Try.info44 : (Try.prog.info? 44).map (fun i => (i.zero, i.size, i.bytes)) = some (some (.agg #[.int .u64 0, .int .u64 0]), 2, 16) := by kernel_rfl
theorem Try.info23 : (Try.prog.info? 23).map (fun i => (i.zero, i.size, i.bytes)) = some (some (.int .u64 0), 1, 8) := by kernel_rfl

/-- The dots that count, of the first k. -/
def flt (ds : List (Int × Int)) (k : Nat) : List (Int × Int) := (ds.take k).filter (fun d => d.2 != 0)
theorem flt_le (ds : List (Int × Int)) (k : Nat) : (flt ds k).length ≤ k := by
  have h1 := List.length_filter_le (fun d : Int × Int => d.2 != 0) (ds.take k)
  have h2 := List.length_take_le k ds
  unfold flt; omega
theorem flt_yes {ds : List (Int × Int)} {k : Nat} (h : k < ds.length) (hd : ((Plain.at' ds k).2 != 0) = true) : flt ds (k + 1) = flt ds k ++ [Plain.at' ds k] := by
  unfold flt; rw [take_snoc' ds k h, List.filter_append]; rw [at_get h] at hd ⊢; simp only [List.filter_cons, hd]; simp
theorem flt_no {ds : List (Int × Int)} {k : Nat} (h : k < ds.length) (hd : ((Plain.at' ds k).2 != 0) = false) : flt ds (k + 1) = flt ds k := by
  unfold flt; rw [take_snoc' ds k h, List.filter_append]; rw [at_get h] at hd; simp only [List.filter_cons, hd]; simp

theorem own2_snoc {wr w1 : World} {B g n cap : Nat} {e : TypeId} {xs : List (Int × Int)} {d : Int × Int} {o : Obj} {w : World} (hn : xs.length = n) (hB : B ≤ wr.heap.size) (hBg : B ≤ g) (hbel : Below B w wr)
    (h : w1.ownsRow B e 2 (.slice (some ⟨g, 0, none⟩) (n + 1) cap) (n + 1) (flat xs ++ [.int .u64 d.1, .int .u64 d.2])) (hg : (wr.alloc o).grownBy w1 (some g)) : Own2 w1 B e (.slice (some ⟨g, 0, none⟩) (n + 1) cap) (xs ++ [d]) ∧ Below B w w1 := by
  refine ⟨?_, (hbel.alloc hB o).grown hg (by simp; omega) (fun k hk => by cases hk; exact hBg)⟩
  unfold Own2
  rw [flat_append, List.length_append, hn]
  exact h

theorem ownsRow_len {w : World} {B e g n n' cap : Nat} {xs : List Value} (h : w.ownsRow B e 2 (.slice (some ⟨g, 0, none⟩) n cap) n xs) (e' : n = n') : w.ownsRow B e 2 (.slice (some ⟨g, 0, none⟩) n' cap) n' xs := e' ▸ h

theorem wrapi {n : Int} (h0 : -9223372036854775808 ≤ n) (h1 : n ≤ 9223372036854775807) : IntKind.i64.wrap n = n := by
  rw [IntKind.wrap_i64]; omega

/-- What the sort keeps: the same dots, in the same row. -/
structure SoR (w : World) (m len : Nat) (X0 xs : List (Int × Int)) (wr : World) : Prop where
  ln : xs.length = m
  mem : ∀ d, d ∈ xs ↔ d ∈ X0
  own : Own2 wr w.heap.size 37 (.slice (some ⟨w.heap.size, 0, none⟩) m len) xs
  bel : Below w.heap.size w wr
  big : w.heap.size < wr.heap.size

theorem SoR.below {w wr w' : World} {m len : Nat} {X0 xs : List (Int × Int)} (h : SoR w m len X0 xs wr) {B : Nat} (hb : Below B wr w') (hB : wr.heap.size ≤ B) : SoR w m len X0 xs w' :=
  ⟨h.ln, h.mem, h.own.below hb hB, h.bel.trans (hb.mono (by have := h.big; omega)), by have := hb.size; have := h.big; omega⟩

theorem SoR.cells {w wr : World} {m len : Nat} {X0 xs : List (Int × Int)} (h : SoR w m len X0 xs wr) {k : Nat} (hk : k < m) :
    wr.cell? ⟨w.heap.size, k * 2, none⟩ = some (.int .u64 (Plain.at' xs k).1) ∧ wr.cell? ⟨w.heap.size, k * 2 + 1, none⟩ = some (.int .u64 (Plain.at' xs k).2) := h.own.cells h.ln hk

theorem SoR.free {w wr : World} {m len : Nat} {X0 xs : List (Int × Int)} (h : SoR w m len X0 xs wr) (k : Nat) : wr.frozen? ⟨w.heap.size, k, none⟩ = false := by
  have := h.own; unfold Own2 at this; rw [h.ln] at this; exact this.frozenAt k

theorem own2_set {w : World} {B e g n cap : Nat} {xs : List (Int × Int)} (h : Own2 w B e (.slice (some ⟨g, 0, none⟩) n cap) xs) (hn : xs.length = n) (k : Nat) (d : Int × Int) :
    Own2 ((w.setCell ⟨g, k * 2, none⟩ (.int .u64 d.1)).setCell ⟨g, k * 2 + 1, none⟩ (.int .u64 d.2)) B e (.slice (some ⟨g, 0, none⟩) n cap) (xs.set k d) := by
  unfold Own2 at h ⊢
  rw [hn] at h
  have := ((h.stored (k * 2) (.int .u64 d.1)).1.stored (k * 2 + 1) (.int .u64 d.2)).1
  rw [flat_set] at this
  rw [List.length_set, hn]
  exact this

theorem SoR.swap {w wr : World} {m len : Nat} {X0 xs : List (Int × Int)} (h : SoR w m len X0 xs wr) {q : Nat} (hq : q + 1 < m) {d1 d2 : Int × Int} (h1 : Plain.at' xs (q + 1) = d1) (h2 : Plain.at' xs q = d2) (o : Obj) :
    SoR w m len X0 (Plain.swap xs (q + 1)) (((((wr.setCell ⟨w.heap.size, (q + 1) * 2, none⟩ (.int .u64 d2.1)).setCell ⟨w.heap.size, (q + 1) * 2 + 1, none⟩ (.int .u64 d2.2)).setCell ⟨w.heap.size, q * 2, none⟩ (.int .u64 d1.1)).setCell ⟨w.heap.size, q * 2 + 1, none⟩ (.int .u64 d1.2)).alloc o) := by
  have ho := own2_set (own2_set h.own h.ln (q + 1) d2) (by rw [List.length_set]; exact h.ln) q d1
  have e : Plain.swap xs (q + 1) = (xs.set (q + 1) d2).set q d1 := by unfold Plain.swap; rw [Nat.add_sub_cancel, h1, h2]
  have hbig := h.big
  refine ⟨by rw [Plain.swap_len]; exact h.ln, fun d => ?_, ?_, ?_, by simp; omega⟩
  · rw [Plain.mem_swap (by omega) (by rw [h.ln]; exact hq)]; exact h.mem d
  · rw [e]; exact World.ownsRow.alloc ho o
  · exact ((((h.bel.setCell (Nat.le_refl _) _).setCell (Nat.le_refl _) _).setCell (Nat.le_refl _) _).setCell (Nat.le_refl _) _).alloc (by simp; omega) o

theorem MapV.mono {R : Rdr} {zd : DataW Unit} {w : World} {b n n' : Nat} {V : Int → Value} (h : MapV R zd w b n V) (hn : n ≤ n') : MapV R zd w b n' V := by
  obtain ⟨D, h, ha⟩ := h; exact ⟨D, h.mono hn, ha⟩

theorem MapV.noCell {R : Rdr} {zd : DataW Unit} {w : World} {b n : Nat} {V : Int → Value} (h : MapV R zd w b n V) (o : Nat) : w.cell? ⟨b, o, none⟩ = none := by
  obtain ⟨D, ⟨es, clock, hb, _⟩, _⟩ := h
  simp [World.cell?, hb]

theorem RdD.kept {R : Rdr} {zd : DataW Unit} {w w' : World} {M n : Nat} {V : Int → Value} (hM : MapV R zd w M n V) {v : Value} {zs : List (Int × Int)} (h : RdD w v zs) (hg : w.grownBy w' (some M)) : RdD w' v zs := by
  obtain ⟨a, cap, rfl, h⟩ := h
  refine ⟨a, cap, rfl, ?_⟩
  by_cases he : zs = []
  · exact .inl he
  rcases h with h | ⟨b, off, rfl, hlt, hc⟩
  · exact .inl h
  · have hpos : 0 < zs.length := by
      cases zs with
      | nil => exact absurd rfl he
      | cons _ _ => simp
    have hne : b ≠ M := by
      intro e
      have := (hc 0 hpos).1
      rw [e, hM.noCell] at this
      cases this
    refine .inr ⟨b, off, rfl, by have := hg.size; omega, fun k hk => ?_⟩
    exact ⟨hg.cell (hc k hk).1 (by simp; exact hne), hg.cell (hc k hk).2 (by simp; exact hne)⟩

theorem Own2.kept {R : Rdr} {zd : DataW Unit} {w w' : World} {M n B e : Nat} {V : Int → Value} (hM : MapV R zd w M n V) {v : Value} {zs : List (Int × Int)} (h : Own2 w B e v zs) (hg : w.grownBy w' (some M)) : Own2 w' B e v zs := by
  refine ⟨h.1, ?_⟩
  rcases h.2 with h2 | ⟨g, cap, cur, hv, hb, hh, r⟩
  · exact .inl h2
  · refine .inr ⟨g, cap, cur, hv, hb, ?_, r⟩
    rw [hg.block g (Array.getElem?_eq_some_iff.1 hh).1 ?_]
    · exact hh
    · intro e
      simp at e
      subst e
      obtain ⟨D, ⟨es, clock, hb', _⟩, _⟩ := hM
      rw [hb'] at hh
      cases hh

/-- What the walk over the groups keeps. -/
structure BR (w : World) (m len M1 M2 n : Nat) (xs : List (Int × Int)) (f1 : Int → Int) (V : Int → Value) (f2 : Int → List (Int × Int)) (wy : World) : Prop where
  own : Own2 wy w.heap.size 37 (.slice (some ⟨w.heap.size, 0, none⟩) m len) xs
  m1 : MapV rdI zI wy M1 n (fun r => .int .u64 (f1 r))
  m2 : MapV rdS zS wy M2 n V
  row : ∀ r, RdD wy (V r) (f2 r)
  ln : ∀ r, (f2 r).length ≤ 1048576
  bel : Below w.heap.size w wy
  big : w.heap.size < wy.heap.size
  ne : M1 ≠ M2
  lo : w.heap.size < M1 ∧ w.heap.size < M2

section
variable {w wy w' : World} {m len M1 M2 n : Nat} {xs : List (Int × Int)} {f1 : Int → Int} {V : Int → Value} {f2 : Int → List (Int × Int)}

theorem BR.below (h : BR w m len M1 M2 n xs f1 V f2 wy) {C : Nat} (hb : Below C wy w') (hC : wy.heap.size ≤ C) : BR w m len M1 M2 n xs f1 V f2 w' :=
  ⟨h.own.below hb hC, h.m1.below hb (Nat.lt_of_lt_of_le h.m1.lt hC), h.m2.below hb (Nat.lt_of_lt_of_le h.m2.lt hC), fun r => (h.row r).below hb hC, h.ln, h.bel.trans (hb.mono (by have := h.big; omega)), by have := hb.size; have := h.big; omega, h.ne, h.lo⟩

theorem BR.mono (h : BR w m len M1 M2 n xs f1 V f2 wy) {n' : Nat} (hn : n ≤ n') : BR w m len M1 M2 n' xs f1 V f2 wy :=
  ⟨h.own, h.m1.mono hn, h.m2.mono hn, h.row, h.ln, h.bel, h.big, h.ne, h.lo⟩

theorem BR.put1 (h : BR w m len M1 M2 n xs f1 V f2 wy) {r : Int} {c : Int} (hm : MapV rdI zI w' M1 (n + 1) (Plain.upd (fun r => .int .u64 (f1 r)) r (.int .u64 c))) (hg : wy.grownBy w' (some M1)) : BR w m len M1 M2 (n + 1) xs (Plain.upd f1 r c) V f2 w' := by
  have hlo := h.lo
  refine ⟨h.own.kept h.m1 hg, ?_, (h.m2.kept hg (by simp; exact fun e => h.ne e.symm)).mono (by omega), fun x => (h.row x).kept h.m1 hg, h.ln, ?_, by have := hg.size; have := h.big; omega, h.ne, h.lo⟩
  · have e : (fun x => Value.int .u64 (Plain.upd f1 r c x)) = Plain.upd (fun r => .int .u64 (f1 r)) r (.int .u64 c) := by
      funext x; unfold Plain.upd; split <;> rfl
    rw [e]; exact hm
  · exact h.bel.grown hg (by have := h.big; omega) (fun k hk => by cases hk; omega)

theorem BR.put2 (h : BR w m len M1 M2 n xs f1 V f2 wy) {r : Int} {v : Value} {sp : List (Int × Int)} (hm : MapV rdS zS w' M2 (n + 1) (Plain.upd V r v)) (hg : wy.grownBy w' (some M2)) (hv : RdD wy v sp) (hl : sp.length ≤ 1048576) :
    BR w m len M1 M2 (n + 1) xs f1 (Plain.upd V r v) (Plain.upd f2 r sp) w' := by
  have hlo := h.lo
  refine ⟨h.own.kept h.m2 hg, (h.m1.kept hg (by simp; exact h.ne)).mono (by omega), hm, fun x => ?_, fun x => ?_, ?_, by have := hg.size; have := h.big; omega, h.ne, h.lo⟩
  · unfold Plain.upd
    split
    · exact hv.kept h.m2 hg
    · exact (h.row x).kept h.m2 hg
  · unfold Plain.upd
    split
    · exact hl
    · exact h.ln x
  · exact h.bel.grown hg (by have := h.big; omega) (fun k hk => by cases hk; omega)

theorem BR.start {wr : World} {X0 : List (Int × Int)} (so : SoR w m len X0 xs wr) : BR w m len wr.heap.size (wr.heap.size + 1) 0 xs (fun _ => 0) (fun _ => .slice none 0 0) (fun _ => []) ((wr.alloc (.map #[] 0)).alloc (.map #[] 0)) := by
  have b1 : Below wr.heap.size wr ((wr.alloc (.map #[] 0)).alloc (.map #[] 0)) := ((Below.refl _ _).alloc (Nat.le_refl _) _).alloc (by simp) _
  have hbig := so.big
  refine ⟨so.own.below b1 (Nat.le_refl _), ?_, ?_, fun _ => ⟨none, 0, rfl, .inl rfl⟩, fun _ => Nat.zero_le _, so.bel.trans (b1.mono (by omega)), by simp; omega, by omega, by omega⟩
  · exact (MapV.made wr rdI_zero).same (Below.heap_alloc _ _ _ (by simp))
  · have := MapV.made (wr.alloc (.map #[] 0)) rdS_zero
    simpa using this

theorem BR.cells (h : BR w m len M1 M2 n xs f1 V f2 wy) (hx : xs.length = m) {k : Nat} (hk : k < m) :
    wy.cell? ⟨w.heap.size, k * 2, none⟩ = some (.int .u64 (Plain.at' xs k).1) ∧ wy.cell? ⟨w.heap.size, k * 2 + 1, none⟩ = some (.int .u64 (Plain.at' xs k).2) := h.own.cells hx hk

end

/-- A row of counters of the call's own. -/
def Own1 (w : World) (B : Nat) (v : Value) (cs : List Int) : Prop := w.ownsRow B 23 1 v cs.length (cs.map (Value.int .u64))

theorem Own1.cell {w : World} {B g n cap : Nat} {cs : List Int} (h : Own1 w B (.slice (some ⟨g, 0, none⟩) n cap) cs) (hn : cs.length = n) {k : Nat} (hk : k < n) : w.cell? ⟨g, k, none⟩ = some (.int .u64 (cs.getD k 0)) := by
  subst hn
  unfold Own1 at h
  rw [World.ownsRow.cellAt h _ (by omega)]
  simp [hk]

theorem Own1.below {w w' : World} {B C : Nat} {v : Value} {zs : List Int} (h : Own1 w B v zs) (hb : Below C w w') (hC : w.heap.size ≤ C) : Own1 w' B v zs := by
  refine ⟨h.1, ?_⟩
  rcases h.2 with h2 | ⟨g, cap, cur, hv, hg, hh, r⟩
  · exact .inl h2
  · refine .inr ⟨g, cap, cur, hv, hg, ?_, r⟩
    rw [hb.block g (Nat.lt_of_lt_of_le (Array.getElem?_eq_some_iff.1 hh).1 hC)]
    exact hh

theorem Own1.kept {R : Rdr} {zd : DataW Unit} {w w' : World} {M n B : Nat} {V : Int → Value} (hM : MapV R zd w M n V) {v : Value} {zs : List Int} (h : Own1 w B v zs) (hg : w.grownBy w' (some M)) : Own1 w' B v zs := by
  refine ⟨h.1, ?_⟩
  rcases h.2 with h2 | ⟨g, cap, cur, hv, hb, hh, r⟩
  · exact .inl h2
  · refine .inr ⟨g, cap, cur, hv, hb, ?_, r⟩
    rw [hg.block g (Array.getElem?_eq_some_iff.1 hh).1 ?_]
    · exact hh
    · intro e
      simp at e
      subst e
      obtain ⟨D, ⟨es, clock, hb', _⟩, _⟩ := hM
      rw [hb'] at hh
      cases hh

/-- What the loop that gathers the counters keeps: wG is the world in which the group began; the counters lie in the block that was made first. -/
structure CsR (wG : World) (cp n : Nat) (cs : List Int) (wy : World) : Prop where
  ln : cs.length = n
  own : Own1 wy wG.heap.size (.slice (some ⟨wG.heap.size, 0, none⟩) n cp) cs
  bel : Below wG.heap.size wG wy
  big : wG.heap.size < wy.heap.size

theorem CsR.start {wG w1 : World} {cp : Nat} (h : w1.ownsRow wG.heap.size 23 1 (.slice (some ⟨wG.heap.size, 0, none⟩) 0 cp) 0 []) (hg : wG.grownBy w1 none) : CsR wG cp 0 [] w1 :=
  ⟨rfl, h, (Below.refl _ _).grown hg (Nat.le_refl _) (by simp), (h.lt wG.heap.size rfl).2⟩

theorem CsR.row {wG wy : World} {cp n : Nat} {cs : List Int} (h : CsR wG cp n cs wy) : wy.ownsRow wG.heap.size 23 1 (.slice (some ⟨wG.heap.size, 0, none⟩) n cp) n (cs.map (Value.int .u64)) := by
  have := h.own; unfold Own1 at this; rw [h.ln] at this; exact this

theorem CsR.rowA {wG wy : World} {cp n : Nat} {cs : List Int} (h : CsR wG cp n cs wy) (o : Obj) (q : Nat) : ((wy.alloc o).drewN q).ownsRow wG.heap.size 23 1 (.slice (some ⟨wG.heap.size, 0, none⟩) n cp) n (cs.map (Value.int .u64)) := World.ownsRow.alloc h.row o

theorem cell_one_drewN (wy : World) (c : Value) (t : TypeId) (q : Nat) : ∀ j u, [c][j]? = some u → ((wy.alloc (.cells #[c] t)).drewN q).cell? ((⟨wy.heap.size, 0, none⟩ : Addr).add j) = some u := cell_one_new wy c t

theorem CsR.snoc {wG wy w1 : World} {cp n : Nat} {cs : List Int} {c : Int} {o : Obj} (h : CsR wG cp n cs wy) (hown : w1.ownsRow wG.heap.size 23 1 (.slice (some ⟨wG.heap.size, 0, none⟩) (n + 1) cp) (n + 1) (cs.map (Value.int .u64) ++ [.int .u64 c])) {q : Nat} (hg : ((wy.alloc o).drewN q).grownBy w1 (some wG.heap.size)) : CsR wG cp (n + 1) (cs ++ [c]) w1 := by
  have hb := h.big
  refine ⟨by rw [List.length_append, h.ln]; rfl, ?_, (below_drewN (h.bel.alloc (by omega) o) q).grown hg (by show wG.heap.size ≤ (wy.alloc o).heap.size; simp; omega) (fun k hk => by cases hk; exact Nat.le_refl _), by have := hg.size; have h2 : (wy.alloc o).heap.size ≤ w1.heap.size := this; simp at h2; omega⟩
  unfold Own1
  rw [List.length_append, h.ln, List.map_append]
  exact hown

theorem CsR.cell {wG wy : World} {cp n : Nat} {cs : List Int} (h : CsR wG cp n cs wy) {k : Nat} (hk : k < n) : wy.cell? ⟨wG.heap.size, k, none⟩ = some (.int .u64 (cs.getD k 0)) := h.own.cell h.ln hk

theorem CsR.drewN {wG wy : World} {cp n : Nat} {cs : List Int} (h : CsR wG cp n cs wy) (q : Nat) : CsR wG cp n cs (wy.drewN q) := ⟨h.ln, h.own, below_drewN h.bel q, h.big⟩

/-- Behind the counters: the clock's maps so far and the row of counters, in one world. -/
structure UpR (w : World) (m len M1 M2 n gc cp q : Nat) (xs : List (Int × Int)) (f1 : Int → Int) (V : Int → Value) (f2 : Int → List (Int × Int)) (cs : List Int) (wy : World) : Prop where
  br : BR w m len M1 M2 n xs f1 V f2 wy
  ln : cs.length = q
  own : Own1 wy gc (.slice (some ⟨gc, 0, none⟩) q cp) cs
  big : gc < wy.heap.size

section
variable {w wG wy w' : World} {m len M1 M2 n gc cp q : Nat} {xs : List (Int × Int)} {f1 : Int → Int} {V : Int → Value} {f2 : Int → List (Int × Int)} {cs : List Int}

theorem UpR.of (br : BR w m len M1 M2 n xs f1 V f2 wG) (cr : CsR wG cp q cs wy) : UpR w m len M1 M2 n wG.heap.size cp q xs f1 V f2 cs wy :=
  ⟨br.below cr.bel (Nat.le_refl _), cr.ln, cr.own, cr.big⟩

theorem UpR.put1 (h : UpR w m len M1 M2 n gc cp q xs f1 V f2 cs wy) {r c : Int} (hw : (Lit.int .u64 r).wf = true) {D : DataW Unit} (hD : wy.ownsMap Try.prog 28 rdI M1 n D)
    (hat : ∀ r, (Lit.int .u64 r).wf = true → ∃ ps, rdI (.int .u64 (f1 r)) = some (D.atKey (.int .u64 r) zI, ps))
    (hm : w'.ownsMap Try.prog 28 rdI M1 (n + 1) (D.put (.int .u64 r) (.lit (.int .u64 c)))) (hg : wy.grownBy w' (some M1)) : UpR w m len M1 M2 (n + 1) gc cp q xs (Plain.upd f1 r c) V f2 cs w' := by
  refine ⟨h.br.put1 (MapV.put hw (ownsMap_isMap hD) (v := .int .u64 c) (ps := []) rfl hat hm) hg, h.ln, h.own.kept h.br.m1 hg, by have := hg.size; have := h.big; omega⟩

theorem UpR.same1 (h : UpR w m len M1 M2 n gc cp q xs f1 V f2 cs wy) {r : Int} (h0 : f1 r = 0) : UpR w m len M1 M2 (n + 1) gc cp q xs (Plain.upd f1 r 0) V f2 cs wy := by
  have e : Plain.upd f1 r 0 = f1 := by funext x; unfold Plain.upd; split <;> simp_all
  rw [e]
  exact ⟨h.br.mono (by omega), h.ln, h.own, h.big⟩

theorem UpR.below (h : UpR w m len M1 M2 n gc cp q xs f1 V f2 cs wy) {C : Nat} (hb : Below C wy w') (hC : wy.heap.size ≤ C) : UpR w m len M1 M2 n gc cp q xs f1 V f2 cs w' :=
  ⟨h.br.below hb hC, h.ln, h.own.below hb hC, by have := hb.size; have := h.big; omega⟩

theorem UpR.cell (h : UpR w m len M1 M2 n gc cp q xs f1 V f2 cs wy) {k : Nat} (hk : k < q) : wy.cell? ⟨gc, k, none⟩ = some (.int .u64 (cs.getD k 0)) := h.own.cell h.ln hk
end

/-- What the loop that lays the ranges keeps: wU is the world in which it began. -/
structure SpR (wU : World) (a : Option Addr) (cap : Nat) (sp : List (Int × Int)) (wy : World) : Prop where
  own : Own2 wy wU.heap.size 44 (.slice a sp.length cap) sp
  bel : Below wU.heap.size wU wy
  form : a = none ∨ ∃ g, a = some ⟨g, 0, none⟩

theorem SpR.start (wU : World) : SpR wU none 0 [] wU := ⟨World.ownsRow_nil _ _ _ _, Below.refl _ _, .inl rfl⟩

theorem SpR.rd {wU wy : World} {a : Option Addr} {cap : Nat} {sp : List (Int × Int)} (h : SpR wU a cap sp wy) : RdD wy (.slice a sp.length cap) sp := by
  refine ⟨a, cap, rfl, ?_⟩
  by_cases he : sp = []
  · exact .inl he
  · have ho := h.own
    rcases h.form with rfl | ⟨g, rfl⟩
    · rcases ho.2 with ⟨_, h0⟩ | ⟨g, c, cur, hv, _⟩
      · exact .inl (List.length_eq_zero_iff.1 h0)
      · simp at hv
    · refine .inr ⟨g, 0, rfl, (ho.lt g rfl).2, fun k hk => ?_⟩
      have := Own2.cells ho rfl hk
      rw [Nat.zero_add]
      exact this

theorem SpR.snoc {wU wy w9 w' : World} {a : Option Addr} {cap g cap' : Nat} {sp : List (Int × Int)} {d : Int × Int} {o : Obj} (h : SpR wU a cap sp wy) (hb : Below wy.heap.size wy w9)
    (hown : w'.ownsRow wU.heap.size 44 2 (.slice (some ⟨g, 0, none⟩) (sp.length + 1) cap') (sp.length + 1) (flat sp ++ [.int .u64 d.1, .int .u64 d.2])) (hg : (w9.alloc o).grownBy w' (Value.slice a sp.length cap).ownBlock) : SpR wU (some ⟨g, 0, none⟩) cap' (sp ++ [d]) w' := by
  have s1 := h.bel.size
  have s2 := hb.size
  refine ⟨?_, ((h.bel.trans (hb.mono s1)).alloc (by omega) o).grown hg (by simp; omega) (fun k hk => (h.own.lt k hk).1), .inr ⟨g, rfl⟩⟩
  unfold Own2
  rw [flat_append, List.length_append]
  exact hown

theorem rdS_some {a : Option Addr} {n c : Nat} (h : a = none ∨ ∃ g, a = some ⟨g, 0, none⟩) : ∃ d, rdS (.slice a n c) = some (d, []) := by
  rcases h with rfl | ⟨g, rfl⟩
  · exact ⟨_, rfl⟩
  · exact ⟨_, rfl⟩

section
variable {w wG wy w' : World} {m len M1 M2 n gc cp q : Nat} {xs : List (Int × Int)} {f1 : Int → Int} {V : Int → Value} {f2 : Int → List (Int × Int)} {cs : List Int}

theorem BR.put2' (h : BR w m len M1 M2 n xs f1 V f2 wy) {r : Int} (hw : (Lit.int .u64 r).wf = true) {D d : DataW Unit} (hD : wy.ownsMap Try.prog 28 rdS M2 n D)
    (hat : ∀ r, (Lit.int .u64 r).wf = true → ∃ ps, rdS (V r) = some (D.atKey (.int .u64 r) zS, ps)) {v : Value} {sp : List (Int × Int)} (hv : rdS v = some (d, []))
    (hm : w'.ownsMap Try.prog 28 rdS M2 (n + 1) (D.put (.int .u64 r) d)) (hg : wy.grownBy w' (some M2)) (hr : RdD wy v sp) (hl : sp.length ≤ 1048576) :
    BR w m len M1 M2 (n + 1) xs f1 (Plain.upd V r v) (Plain.upd f2 r sp) w' := h.put2 (MapV.put hw (ownsMap_isMap hD) hv hat hm) hg hr hl

theorem BR.same2 (h : BR w m len M1 M2 n xs f1 V f2 wy) {r : Int} (h0 : f2 r = []) : BR w m len M1 M2 (n + 1) xs f1 V (Plain.upd f2 r []) wy := by
  have e : Plain.upd f2 r [] = f2 := by funext x; unfold Plain.upd; split <;> simp_all
  rw [e]; exact h.mono (by omega)

/-- At the end: the clock. -/
theorem BR.clock (h : BR w m len M1 M2 n xs f1 V f2 wy) (hg : Plain.Grp xs xs.length f1 f2) {ds : List (Int × Int)} (hmem : ∀ d, d ∈ xs ↔ d ∈ ds.filter (fun d => d.2 != 0)) :
    Clk (wy.alloc (.cells #[.map (some M1), .map (some M2)] 51)) wy.heap.size ds ∧ Below w.heap.size w (wy.alloc (.cells #[.map (some M1), .map (some M2)] 51)) := by
  have hb : Below wy.heap.size wy (wy.alloc (.cells #[.map (some M1), .map (some M2)] 51)) := (Below.refl _ _).alloc (Nat.le_refl _) _
  have h' := h.below hb (Nat.le_refl _)
  refine ⟨⟨M1, M2, n, n, f1, V, f2, ⟨by simp [go_sem], by simp [go_sem], h'.m1, h'.m2, h'.row, h'.ln, fun r => (hg.ok r).rise, fun r x hx => ?_⟩⟩, h'.bel⟩
  rw [← Plain.grp_end hg r x hx, hmem]
  simp
  intro _; omega
end

end Go.Proofs.Qxb6615576a
