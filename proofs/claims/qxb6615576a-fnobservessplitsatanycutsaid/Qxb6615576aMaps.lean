/-
  THE MAPS of seat b6615576a: a map keyed by replicas, as a function from replicas to values.
-/
import Derived.Test.Qxb6615576aSearch
namespace Go.Proofs.Qxb6615576a
open Go.RowKit Go.Maps

theorem law28 : Keyed Try.prog 28 := int_keyed Try.underlying28
theorem zero23 (w : World) : (zeroValue 23).run Try.prog w = .ok (.int .u64 0) w := by kernel_rfl
theorem zero42 (w : World) : (zeroValue 42).run Try.prog w = .ok (.slice none 0 0) w := by kernel_rfl

abbrev Rdr := Value → Option (DataW Unit × List MemPlace)

def InjR (R : Rdr) : Prop := ∀ v v' d ps ps', R v = some (d, ps) → R v' = some (d, ps') → v = v'

/-- Numbers. -/
def rdI : Rdr := fun v => match v with | .int .u64 a => some (.lit (.int .u64 a), []) | _ => none
/-- Slices, by where they lie. -/
def rdS : Rdr := fun v => match v with
  | .slice none n c => some (.agg [.lit (.int .i64 n), .lit (.int .i64 c)], [])
  | .slice (some ⟨b, o, none⟩) n c => some (.agg [.lit (.int .i64 n), .lit (.int .i64 c), .lit (.int .i64 b), .lit (.int .i64 o)], [])
  | _ => none

theorem injI : InjR rdI := by
  intro v v' d ps ps' h h'
  unfold rdI at h h'
  split at h
  · split at h'
    · simp at h h'; rw [← h.1] at h'; simp at h'; rw [h'.1]
    · cases h'
  · cases h

theorem injS : InjR rdS := by
  intro v v' d ps ps' h h'
  unfold rdS at h h'
  split at h
  · split at h'
    · simp at h h'; rw [← h.1] at h'; simp at h'; simp; omega
    · simp at h h'; rw [← h.1] at h'; simp at h'
    · cases h'
  · split at h'
    · simp at h h'; rw [← h.1] at h'; simp at h'
    · simp at h h'; rw [← h.1] at h'; simp at h'; simp; omega
    · cases h'
  · cases h

/-- Block b is a map of at most n entries that holds V r at the replica r (z where there is none). -/
def MapV (R : Rdr) (zd : DataW Unit) (w : World) (b n : Nat) (V : Int → Value) : Prop :=
  ∃ D : DataW Unit, w.ownsMap Try.prog 28 R b n D ∧ ∀ r, (Lit.int .u64 r).wf = true → ∃ ps, R (V r) = some (D.atKey (.int .u64 r) zd, ps)

theorem MapV.made {R : Rdr} {zd : DataW Unit} (w : World) {z : Value} {zp : List MemPlace} (hz : R z = some (zd, zp)) : MapV R zd (w.alloc (.map #[] 0)) w.heap.size 0 (fun _ => z) :=
  ⟨_, World.ownsMap_made w _ _ _, fun _ _ => ⟨zp, hz⟩⟩

theorem MapV.lt {R : Rdr} {zd : DataW Unit} {w : World} {b n : Nat} {V : Int → Value} (h : MapV R zd w b n V) : b < w.heap.size := by
  obtain ⟨D, h, _⟩ := h; exact h.lt

theorem MapV.kept {R : Rdr} {zd : DataW Unit} {w w' : World} {b n : Nat} {V : Int → Value} {row : Option Nat} (h : MapV R zd w b n V) (hg : w.grownBy w' row) (hne : some b ≠ row) : MapV R zd w' b n V := by
  obtain ⟨D, h, ha⟩ := h; exact ⟨D, h.kept hg hne, ha⟩

theorem MapV.same {R : Rdr} {zd : DataW Unit} {w w' : World} {b n : Nat} {V : Int → Value} (h : MapV R zd w b n V) (e : w'.heap[b]? = w.heap[b]?) : MapV R zd w' b n V := by
  obtain ⟨D, ⟨es, clock, hb, r⟩, ha⟩ := h; exact ⟨D, ⟨es, clock, e.trans hb, r⟩, ha⟩

theorem MapV.below {R : Rdr} {zd : DataW Unit} {w w' : World} {b n B : Nat} {V : Int → Value} (h : MapV R zd w b n V) (hb : Below B w w') (hB : b < B) : MapV R zd w' b n V := h.same (hb.block b hB)

/-- Behind a store. -/
theorem MapV.put {R : Rdr} {zd : DataW Unit} {w' : World} {b n : Nat} {V : Int → Value} {D : DataW Unit} {r : Int} {v : Value} {d : DataW Unit} {ps : List MemPlace} (hw : (Lit.int .u64 r).wf = true) (hm : IsMap D) (hv : R v = some (d, ps))
    (hat : ∀ r, (Lit.int .u64 r).wf = true → ∃ ps, R (V r) = some (D.atKey (.int .u64 r) zd, ps)) (h : w'.ownsMap Try.prog 28 R b (n + 1) (D.put (.int .u64 r) d)) : MapV R zd w' b (n + 1) (Plain.upd V r v) := by
  refine ⟨_, h, fun x hx => ?_⟩
  by_cases e : x = r
  · subst e
    rw [Plain.upd_same, atKey_put_same hm (law28.key (keyOf_int_mk Try.underlying28 hw))]
    exact ⟨_, hv⟩
  · rw [Plain.upd_other _ _ e, atKey_put_other (by intro h; simp at h; exact e h)]
    exact hat x hx

theorem ownsMap_isMap {R : Rdr} {w : World} {b n : Nat} {D : DataW Unit} (h : w.ownsMap Try.prog 28 R b n D) : IsMap D := by
  obtain ⟨es, clock, _, _, _, rfl⟩ := h; exact ⟨_, rfl⟩

theorem MapV.look {R : Rdr} {zd : DataW Unit} {w : World} {b n : Nat} {V : Int → Value} {t e : TypeId} (hinj : InjR R) (h : MapV R zd w b n V) (ht : Try.prog.underlying t = some (.map 28 e)) {z : Value} (hz : (zeroValue e).run Try.prog w = .ok z w) {zp : List MemPlace} (hzd : R z = some (zd, zp))
    {r : Int} (hw : (Lit.int .u64 r).wf = true) : (Instr.lookup t (.map (some b)) (.int .u64 r) false).run Try.prog w = .ok (V r) w := by
  obtain ⟨D, h, ha⟩ := h
  obtain ⟨v, ps, hrun, hv⟩ := h.lookup law28 ht hz hzd (keyOf_int_mk Try.underlying28 hw)
  obtain ⟨ps', hv'⟩ := ha r hw
  rw [hrun, hinj v (V r) _ _ _ hv hv']

def zI : DataW Unit := .lit (.int .u64 0)
def zS : DataW Unit := .agg [.lit (.int .i64 0), .lit (.int .i64 0)]
theorem rdI_zero : rdI (.int .u64 0) = some (zI, []) := rfl
theorem rdS_zero : rdS (.slice none 0 0) = some (zS, []) := rfl

/-- The pointer to block bc leads to a clock that has observed just the dots ds. -/
structure IsClock (w : World) (bc : Nat) (ds : List (Int × Int)) (b1 b2 n1 n2 : Nat) (f1 : Int → Int) (V : Int → Value) (f2 : Int → List (Int × Int)) : Prop where
  c0 : w.cell? ⟨bc, 0, none⟩ = some (.map (some b1))
  c1 : w.cell? ⟨bc, 1, none⟩ = some (.map (some b2))
  m1 : MapV rdI zI w b1 n1 (fun r => .int .u64 (f1 r))
  m2 : MapV rdS zS w b2 n2 V
  row : ∀ r, RdD w (V r) (f2 r)
  len : ∀ r, (f2 r).length ≤ 1048576
  rise : ∀ r, Plain.Rise (f2 r)
  iff : ∀ r n, 0 < n → ((r, n) ∈ ds ↔ n ≤ f1 r ∨ Plain.Cov (f2 r) n)

theorem IsClock.lt {w : World} {bc : Nat} {ds : List (Int × Int)} {b1 b2 n1 n2 : Nat} {f1 : Int → Int} {V : Int → Value} {f2 : Int → List (Int × Int)} (h : IsClock w bc ds b1 b2 n1 n2 f1 V f2) : bc < w.heap.size :=
  World.block_lt_of_cell? w _ h.c0

theorem RdD.below {w w' : World} {v : Value} {zs : List (Int × Int)} (h : RdD w v zs) {B : Nat} (hb : Below B w w') (hB : w.heap.size ≤ B) : RdD w' v zs := by
  obtain ⟨a, cap, rfl, h⟩ := h
  refine ⟨a, cap, rfl, ?_⟩
  rcases h with h | ⟨b, off, rfl, hlt, hc⟩
  · exact .inl h
  · exact .inr ⟨b, off, rfl, by have := hb.size; omega, hc.below hb (by omega)⟩

theorem IsClock.below {w w' : World} {bc : Nat} {ds : List (Int × Int)} {b1 b2 n1 n2 : Nat} {f1 : Int → Int} {V : Int → Value} {f2 : Int → List (Int × Int)} (h : IsClock w bc ds b1 b2 n1 n2 f1 V f2) {B : Nat} (hb : Below B w w') (hB : w.heap.size ≤ B) : IsClock w' bc ds b1 b2 n1 n2 f1 V f2 := by
  have hl := h.lt
  exact ⟨by rw [hb.cell (p := ⟨bc, 0, none⟩) (by exact Nat.lt_of_lt_of_le hl hB)]; exact h.c0, by rw [hb.cell (p := ⟨bc, 1, none⟩) (by exact Nat.lt_of_lt_of_le hl hB)]; exact h.c1,
    h.m1.below hb (Nat.lt_of_lt_of_le h.m1.lt hB), h.m2.below hb (Nat.lt_of_lt_of_le h.m2.lt hB), fun r => (h.row r).below hb hB, h.len, h.rise, h.iff⟩

end Go.Proofs.Qxb6615576a
