/-
  THE PLAIN LAW of seat b6615576a: dots (replica, counter), sorted; the counters of one replica as a run from 1 on and as ranges; what a binary search over the ranges finds. No Go here.
-/
namespace Go.Proofs.Qxb6615576a.Plain

abbrev Dot := Int × Int

/-- zzLess -/
def lessB (a b : Dot) : Bool := if a.1 != b.1 then decide (a.1 < b.1) else decide (a.2 < b.2)
def le (a b : Dot) : Prop := a.1 < b.1 ∨ (a.1 = b.1 ∧ a.2 ≤ b.2)

theorem le_of_less {a b : Dot} (h : lessB a b = true) : le a b := by
  unfold lessB at h
  unfold le
  by_cases e : a.1 = b.1
  · simp [e] at h; omega
  · simp [e] at h; omega
theorem le_of_not {a b : Dot} (h : lessB a b = false) : le b a := by
  unfold lessB at h
  unfold le
  by_cases e : a.1 = b.1
  · simp [e] at h; omega
  · simp [e] at h; omega
theorem le_trans {a b c : Dot} (h : le a b) (k : le b c) : le a c := by unfold le at *; omega
theorem le_refl (a : Dot) : le a a := by unfold le; omega

/-- The dot at place k. -/
def at' (l : List Dot) (k : Nat) : Dot := l.getD k (0, 0)

def swap (l : List Dot) (j : Nat) : List Dot := (l.set j (at' l (j - 1))).set (j - 1) (at' l j)

theorem at_set {l : List Dot} {j k : Nat} {d : Dot} (hk : k < l.length) : at' (l.set j d) k = if j = k then d else at' l k := by
  unfold at'
  rw [List.getD_eq_getElem?_getD, List.getD_eq_getElem?_getD, List.getElem?_set]
  split
  · rw [if_pos (by omega)]; rfl
  · rfl

theorem at_swap {l : List Dot} {j k : Nat} (hk : k < l.length) : at' (swap l j) k = if k = j - 1 then at' l j else if k = j then at' l (j - 1) else at' l k := by
  unfold swap
  rw [at_set (by simpa using hk), at_set hk]
  by_cases h1 : k = j - 1
  · rw [if_pos h1, if_pos h1.symm]
  · rw [if_neg h1, if_neg (fun h => h1 h.symm)]
    by_cases h2 : k = j
    · rw [if_pos h2, if_pos h2.symm]
    · rw [if_neg h2, if_neg (fun h => h2 h.symm)]

theorem swap_len (l : List Dot) (j : Nat) : (swap l j).length = l.length := by simp [swap]

theorem mem_at {l : List Dot} {d : Dot} : d ∈ l ↔ ∃ k, k < l.length ∧ at' l k = d := by
  rw [List.mem_iff_getElem]
  constructor
  · rintro ⟨k, hk, rfl⟩; exact ⟨k, hk, by simp [at', hk]⟩
  · rintro ⟨k, hk, rfl⟩; exact ⟨k, hk, by simp [at', hk]⟩

theorem mem_swap {l : List Dot} {j : Nat} (h0 : 0 < j) (hj : j < l.length) (d : Dot) : d ∈ swap l j ↔ d ∈ l := by
  rw [mem_at, mem_at, swap_len]
  constructor
  · rintro ⟨k, hk, rfl⟩
    rw [at_swap hk]
    split
    · exact ⟨j, hj, rfl⟩
    · split
      · exact ⟨j - 1, by omega, rfl⟩
      · exact ⟨k, hk, rfl⟩
  · rintro ⟨k, hk, rfl⟩
    by_cases h1 : k = j - 1
    · exact ⟨j, hj, by rw [at_swap hj, if_neg (by omega), if_pos rfl, h1]⟩
    · by_cases h2 : k = j
      · exact ⟨j - 1, by omega, by rw [at_swap (by omega), if_pos rfl, h2]⟩
      · exact ⟨k, hk, by rw [at_swap hk, if_neg h1, if_neg h2]⟩

/-- The first n places are in order. -/
def Srt (l : List Dot) (n : Nat) : Prop := ∀ a b, a < b → b < n → le (at' l a) (at' l b)

/-- In the middle of an insertion: the places up to i are in order but for that at j, which stands before all behind it. -/
def Ins (l : List Dot) (i j : Nat) : Prop := (∀ a b, a < b → b ≤ i → a ≠ j → b ≠ j → le (at' l a) (at' l b)) ∧ ∀ b, j < b → b ≤ i → le (at' l j) (at' l b)

theorem ins_start {l : List Dot} {i : Nat} (h : Srt l i) : Ins l i i :=
  ⟨fun a b hab hb _ hbi => h a b hab (by omega), fun b h1 h2 => by omega⟩

theorem ins_step {l : List Dot} {i j : Nat} (h : Ins l i j) (h0 : 0 < j) (hi : i < l.length) (hji : j ≤ i) (hl : lessB (at' l j) (at' l (j - 1)) = true) : Ins (swap l j) i (j - 1) := by
  have hle := le_of_less hl
  refine ⟨fun a b hab hb ha hbj => ?_, fun b hb hbi => ?_⟩
  · rw [at_swap (by omega), at_swap (by omega), if_neg ha, if_neg hbj]
    by_cases e1 : a = j
    · rw [if_pos e1, if_neg (by omega)]
      exact h.1 (j - 1) b (by omega) hb (by omega) (by omega)
    · rw [if_neg e1]
      by_cases e2 : b = j
      · rw [if_pos e2]
        exact h.1 a (j - 1) (by omega) (by omega) e1 (by omega)
      · rw [if_neg e2]
        exact h.1 a b hab hb e1 e2
  · rw [at_swap (by omega), at_swap (by omega), if_pos rfl, if_neg (by omega)]
    by_cases e : b = j
    · rw [if_pos e]; exact hle
    · rw [if_neg e]; exact h.2 b (by omega) hbi

theorem ins_end {l : List Dot} {i j : Nat} (h : Ins l i j) (hd : j = 0 ∨ lessB (at' l j) (at' l (j - 1)) = false) : Srt l (i + 1) := by
  intro a b hab hb
  by_cases e1 : a = j
  · rw [e1]; exact h.2 b (by omega) (by omega)
  · by_cases e2 : b = j
    · rw [e2]
      rcases hd with hd | hd
      · omega
      · have hk := le_of_not hd
        by_cases e3 : a = j - 1
        · rw [e3]; exact hk
        · exact le_trans (h.1 a (j - 1) (by omega) (by omega) e1 (by omega)) hk
    · exact h.1 a b hab (by omega) e1 e2

/-! ### counters of one replica -/

/-- One counter more, unless it is the last one again. -/
def dd (cs : List Int) (n : Int) : List Int := if cs.length = 0 ∨ cs.getD (cs.length - 1) 0 ≠ n then cs ++ [n] else cs

/-- Rising, without repeats. -/
def Asc (cs : List Int) : Prop := ∀ a b, a < b → b < cs.length → cs.getD a 0 < cs.getD b 0

theorem getD_snoc (cs : List Int) (n : Int) (k : Nat) : (cs ++ [n]).getD k 0 = if k < cs.length then cs.getD k 0 else if k = cs.length then n else 0 := by
  rw [List.getD_eq_getElem?_getD, List.getD_eq_getElem?_getD]
  by_cases h : k < cs.length
  · rw [List.getElem?_append_left h, if_pos h]
  · rw [List.getElem?_append_right (by omega), if_neg h]
    by_cases e : k = cs.length
    · simp [e]
    · rw [if_neg e, List.getElem?_eq_none (by simp; omega)]; rfl

/-- What the counters gathered so far are: rising; just those of the places i .. k; the last is that of the last place. -/
structure Cs (l : List Dot) (i k : Nat) (cs : List Int) : Prop where
  asc : Asc cs
  mem : ∀ n, n ∈ cs ↔ ∃ t, i ≤ t ∧ t < k ∧ (at' l t).2 = n
  last : i < k → 0 < cs.length ∧ cs.getD (cs.length - 1) 0 = (at' l (k - 1)).2
  none : k ≤ i → cs = []
  len : cs.length ≤ k - i

theorem cs_start (l : List Dot) (i : Nat) : Cs l i i [] :=
  ⟨fun a b _ h => by simp at h, fun n => by simp; omega, fun h => by omega, fun _ => rfl, by simp⟩

theorem cs_step {l : List Dot} {i k : Nat} {cs : List Int} (h : Cs l i k cs) (hik : i ≤ k) (hs : i < k → (at' l (k - 1)).2 ≤ (at' l k).2) : Cs l i (k + 1) (dd cs (at' l k).2) := by
  have memOf : ∀ cs' : List Int, (∀ n, n ∈ cs' ↔ n ∈ cs ∨ n = (at' l k).2) → ∀ n, n ∈ cs' ↔ ∃ t, i ≤ t ∧ t < k + 1 ∧ (at' l t).2 = n := by
    intro cs' he n
    rw [he, h.mem]
    constructor
    · rintro (⟨t, h1, h2, h3⟩ | h3)
      · exact ⟨t, h1, by omega, h3⟩
      · exact ⟨k, hik, by omega, h3.symm⟩
    · rintro ⟨t, h1, h2, h3⟩
      by_cases e : t = k
      · right; rw [← h3, e]
      · left; exact ⟨t, h1, by omega, h3⟩
  unfold dd
  by_cases hc : cs.length = 0 ∨ cs.getD (cs.length - 1) 0 ≠ (at' l k).2
  · rw [if_pos hc]
    refine ⟨fun a b hab hb => ?_, memOf _ (by simp), fun _ => ⟨by simp, ?_⟩, fun hh => by omega, by have := h.len; simp; omega⟩
    · simp at hb
      rw [getD_snoc, getD_snoc, if_pos (by omega)]
      by_cases hbl : b < cs.length
      · rw [if_pos hbl]; exact h.asc a b hab hbl
      · rw [if_neg hbl, if_pos (by omega)]
        have hpos : 0 < cs.length := by omega
        have hik' : i < k := by
          rcases Nat.lt_or_ge i k with hh | hh
          · exact hh
          · have := h.none hh; rw [this] at hpos; simp at hpos
        have hl := (h.last hik').2
        have hle := hs hik'
        have hlt : cs.getD (cs.length - 1) 0 < (at' l k).2 := by
          rcases hc with hc | hc
          · omega
          · omega
        by_cases e : a = cs.length - 1
        · rw [e]; exact hlt
        · have := h.asc a (cs.length - 1) (by omega) (by omega); omega
    · simp only [List.length_append, List.length_singleton, Nat.add_sub_cancel]
      rw [getD_snoc, if_neg (by omega), if_pos rfl]
  · rw [if_neg hc]
    have hc' : 0 < cs.length ∧ cs.getD (cs.length - 1) 0 = (at' l k).2 := by
      constructor
      · omega
      · exact Classical.not_not.1 fun e => hc (.inr e)
    have hin : (at' l k).2 ∈ cs := by
      rw [← hc'.2, List.getD_eq_getElem?_getD, List.getElem?_eq_getElem (by omega), Option.getD_some]
      exact List.getElem_mem _
    refine ⟨h.asc, memOf _ (fun n => ⟨.inl, fun hh => ?_⟩), fun _ => ⟨hc'.1, by simpa using hc'.2⟩, fun hh => by omega, by have := h.len; omega⟩
    rcases hh with hh | hh
    · exact hh
    · rw [hh]; exact hin

/-! ### ranges -/

abbrev Span := Int × Int

/-- Ranges that rise and do not touch one another's inside. -/
def Rise (sp : List Span) : Prop := (∀ s ∈ sp, s.1 ≤ s.2) ∧ ∀ a b, a < b → b < sp.length → (at' sp a).2 < (at' sp b).1

def Cov (sp : List Span) (n : Int) : Prop := ∃ s ∈ sp, s.1 ≤ n ∧ n ≤ s.2

/-- The ranges laid so far: of the counters at the places k0 .. k. -/
structure Sp (cs : List Int) (k0 k : Nat) (sp : List Span) : Prop where
  rise : Rise sp
  cov : ∀ n, Cov sp n ↔ ∃ t, k0 ≤ t ∧ t < k ∧ cs.getD t 0 = n
  below : ∀ s ∈ sp, ∀ t, k ≤ t → t < cs.length → s.2 < cs.getD t 0
  len : sp.length ≤ k

theorem sp_start (cs : List Int) (k0 : Nat) : Sp cs k0 k0 [] :=
  ⟨⟨by simp, fun a b _ h => by simp at h⟩, fun n => by simp [Cov]; omega, by simp, by simp⟩

/-- In the middle of a range: from place k1, with the first counter, up to place k. -/
structure Run (cs : List Int) (k1 k : Nat) (first last : Int) : Prop where
  lt : k1 < k
  le : k ≤ cs.length
  run : ∀ t, k1 ≤ t → t < k → cs.getD t 0 = first + ((t : Int) - (k1 : Int))
  last : last = first + ((k : Int) - 1 - (k1 : Int))

theorem run_start {cs : List Int} {k1 : Nat} (h : k1 < cs.length) : Run cs k1 (k1 + 1) (cs.getD k1 0) (cs.getD k1 0) :=
  ⟨by omega, by omega, fun t h1 h2 => by have : t = k1 := by omega
                                         subst this; omega, by omega⟩
theorem run_step {cs : List Int} {k1 k : Nat} {first last : Int} (h : Run cs k1 k first last) (hk : k < cs.length) (e : cs.getD k 0 = last + 1) : Run cs k1 (k + 1) first (cs.getD k 0) := by
  have hl := h.last
  refine ⟨by have := h.lt; omega, by omega, fun t h1 h2 => ?_, by omega⟩
  by_cases e' : t = k
  · subst e'; omega
  · exact h.run t h1 (by omega)
theorem run_last {cs : List Int} {k1 k : Nat} {first last : Int} (h : Run cs k1 k first last) : cs.getD (k - 1) 0 = last := by
  have h1 := h.lt
  rw [h.run (k - 1) (by omega) (by omega), h.last]; omega

theorem at_snoc (sp : List Span) (s : Span) (k : Nat) : at' (sp ++ [s]) k = if k < sp.length then at' sp k else if k = sp.length then s else (0, 0) := by
  unfold at'
  rw [List.getD_eq_getElem?_getD, List.getD_eq_getElem?_getD]
  by_cases h : k < sp.length
  · rw [List.getElem?_append_left h, if_pos h]
  · rw [List.getElem?_append_right (by omega), if_neg h]
    by_cases e : k = sp.length
    · simp [e]
    · rw [if_neg e, List.getElem?_eq_none (by simp; omega)]; rfl

theorem sp_step {cs : List Int} {k0 k1 k : Nat} {sp : List Span} {first last : Int} (hasc : Asc cs) (h : Sp cs k0 k1 sp) (h0 : k0 ≤ k1) (hr : Run cs k1 k first last) : Sp cs k0 k (sp ++ [(first, last)]) := by
  have hlt := hr.lt
  have hle := hr.le
  have hf : cs.getD k1 0 = first := by have := hr.run k1 (Nat.le_refl _) hlt; omega
  have hl := hr.last
  have hcl := run_last hr
  refine ⟨⟨?_, fun a b hab hb => ?_⟩, fun n => ?_, fun s hs t h1 h2 => ?_, by have := h.len; simp; omega⟩
  · intro s hs
    rcases List.mem_append.1 hs with hs | hs
    · exact h.rise.1 s hs
    · simp at hs; subst hs; simp only; omega
  · simp at hb
    rw [at_snoc, at_snoc, if_pos (by omega)]
    by_cases hbl : b < sp.length
    · rw [if_pos hbl]; exact h.rise.2 a b hab hbl
    · rw [if_neg hbl, if_pos (by omega)]
      have := h.below (at' sp a) (mem_at.2 ⟨a, by omega, rfl⟩) k1 (Nat.le_refl _) (by omega)
      rw [hf] at this; exact this
  · unfold Cov
    constructor
    · rintro ⟨s, hs, h1, h2⟩
      rcases List.mem_append.1 hs with hs | hs
      · obtain ⟨t, g1, g2, g3⟩ := (h.cov n).1 ⟨s, hs, h1, h2⟩
        exact ⟨t, g1, by omega, g3⟩
      · simp at hs; subst hs
        simp only at h1 h2
        refine ⟨k1 + (n - first).toNat, by omega, by omega, ?_⟩
        rw [hr.run _ (by omega) (by omega)]; omega
    · rintro ⟨t, g1, g2, g3⟩
      by_cases e : t < k1
      · obtain ⟨s, hs, h1, h2⟩ := (h.cov n).2 ⟨t, g1, e, g3⟩
        exact ⟨s, by simp [hs], h1, h2⟩
      · refine ⟨(first, last), by simp, ?_⟩
        have := hr.run t (by omega) g2
        simp only; omega
  · rcases List.mem_append.1 hs with hs | hs
    · exact h.below s hs t (by omega) h2
    · simp at hs; subst hs
      simp only
      rw [← hcl]
      exact hasc (k - 1) t (by omega) h2

/-! ### the clock of one replica -/

/-- The counters n > 0 with S n are just those up to k and those in the ranges. -/
structure Ok (S : Int → Prop) (k : Int) (sp : List Span) : Prop where
  rise : Rise sp
  iff : ∀ n, 0 < n → (S n ↔ n ≤ k ∨ Cov sp n)

/-- The run from 1 on. -/
def Pre (cs : List Int) (k : Nat) : Prop := k ≤ cs.length ∧ ∀ t, t < k → cs.getD t 0 = (t : Int) + 1

theorem pre_start (cs : List Int) : Pre cs 0 := ⟨Nat.zero_le _, fun t h => by omega⟩
theorem pre_step {cs : List Int} {k : Nat} (h : Pre cs k) (hk : k < cs.length) (e : cs.getD k 0 = (k : Int) + 1) : Pre cs (k + 1) :=
  ⟨hk, fun t ht => by
    by_cases e' : t = k
    · subst e'; exact e
    · exact h.2 t (by omega)⟩

theorem mem_getD {cs : List Int} {n : Int} : n ∈ cs ↔ ∃ t, t < cs.length ∧ cs.getD t 0 = n := by
  rw [List.mem_iff_getElem]
  constructor
  · rintro ⟨k, hk, rfl⟩; exact ⟨k, hk, by simp [hk]⟩
  · rintro ⟨k, hk, rfl⟩; exact ⟨k, hk, by simp [hk]⟩

theorem ok_of {cs : List Int} {k0 : Nat} {sp : List Span} {S : Int → Prop} (hS : ∀ n, S n ↔ n ∈ cs) (hp : Pre cs k0) (hs : Sp cs k0 cs.length sp) : Ok S (k0 : Int) sp := by
  refine ⟨hs.rise, fun n hn => ?_⟩
  rw [hS, mem_getD, hs.cov]
  constructor
  · rintro ⟨t, h1, h2⟩
    by_cases e : t < k0
    · left; have := hp.2 t e; omega
    · right; exact ⟨t, by omega, h1, h2⟩
  · rintro (h | ⟨t, h1, h2, h3⟩)
    · refine ⟨(n - 1).toNat, by have := hp.1; omega, ?_⟩
      rw [hp.2 _ (by omega)]; omega
    · exact ⟨t, h2, h3⟩

theorem ok_none {S : Int → Prop} (h : ∀ n, ¬ S n) : Ok S 0 [] :=
  ⟨⟨by simp, fun a b _ hb => by simp at hb⟩, fun n hn => by
    constructor
    · intro hh; exact absurd hh (h n)
    · rintro (hh | ⟨s, hs, _⟩)
      · omega
      · simp at hs⟩

theorem ok_congr {S S' : Int → Prop} {k : Int} {sp : List Span} (h : Ok S k sp) (e : ∀ n, S' n ↔ S n) : Ok S' k sp := ⟨h.rise, fun n hn => (e n).trans (h.iff n hn)⟩

/-! ### the search -/

/-- Where the search stands: all ranges below i lie below n, none from j on does. -/
structure Srch (sp : List Span) (n : Int) (i j : Nat) : Prop where
  le : i ≤ j
  len : j ≤ sp.length
  lo : ∀ t, t < i → (at' sp t).2 < n
  hi : ∀ t, j ≤ t → t < sp.length → ¬ (at' sp t).2 < n

theorem srch_start (sp : List Span) (n : Int) : Srch sp n 0 sp.length := ⟨Nat.zero_le _, Nat.le_refl _, fun t h => by omega, fun t h1 h2 => by omega⟩

theorem rise_mono {sp : List Span} (hr : Rise sp) {a b : Nat} (hab : a ≤ b) (hb : b < sp.length) : (at' sp a).2 ≤ (at' sp b).2 := by
  by_cases e : a = b
  · rw [e]; omega
  · have h1 := hr.2 a b (by omega) hb
    have h2 := hr.1 (at' sp b) (mem_at.2 ⟨b, hb, rfl⟩)
    omega

theorem srch_up {sp : List Span} {n : Int} {i j h : Nat} (hr : Rise sp) (hs : Srch sp n i j) (hh : h < j) (hlt : (at' sp h).2 < n) : Srch sp n (h + 1) j :=
  ⟨by omega, hs.len, fun t ht => by have := rise_mono hr (a := t) (b := h) (by omega) (by have := hs.len; omega); omega, hs.hi⟩
theorem srch_down {sp : List Span} {n : Int} {i j h : Nat} (hr : Rise sp) (hs : Srch sp n i j) (hh : h < j) (hge : ¬ (at' sp h).2 < n) (hih : i ≤ h) : Srch sp n i h :=
  ⟨hih, by have := hs.len; omega, hs.lo, fun t h1 h2 => by have := rise_mono hr (a := h) (b := t) h1 h2; omega⟩

theorem srch_end {sp : List Span} {n : Int} {i : Nat} (hr : Rise sp) (hs : Srch sp n i i) : Cov sp n ↔ i < sp.length ∧ ¬ (n < (at' sp i).1) := by
  constructor
  · rintro ⟨s, hm, h1, h2⟩
    obtain ⟨t, ht, rfl⟩ := mem_at.1 hm
    have hit : i ≤ t := by
      rcases Nat.lt_or_ge t i with h | h
      · have := hs.lo t h; omega
      · exact h
    refine ⟨by omega, ?_⟩
    by_cases e : i = t
    · rw [e]; omega
    · have h3 := hr.2 i t (by omega) ht
      have h4 := hs.hi i (Nat.le_refl _) (by omega)
      omega
  · rintro ⟨h1, h2⟩
    have h4 := hs.hi i (Nat.le_refl _) h1
    exact ⟨_, mem_at.2 ⟨i, h1, rfl⟩, by omega, by omega⟩

/-! ### group by group -/

def upd {α : Type} (f : Int → α) (r : Int) (v : α) : Int → α := fun x => if x = r then v else f x
theorem upd_same {α : Type} (f : Int → α) (r : Int) (v : α) : upd f r v r = v := by simp [upd]
theorem upd_other {α : Type} (f : Int → α) {r x : Int} (v : α) (h : x ≠ r) : upd f r v x = f x := by simp [upd, h]

/-- The replicas of the first i places are done. -/
structure Grp (xs : List Dot) (i : Nat) (f1 : Int → Int) (f2 : Int → List Span) : Prop where
  ok : ∀ r, Ok (fun n => ∃ t, t < i ∧ at' xs t = (r, n)) (f1 r) (f2 r)
  bd : 0 < i → i < xs.length → (at' xs (i - 1)).1 < (at' xs i).1
  zero : ∀ r, (∀ t, t < i → (at' xs t).1 ≠ r) → f1 r = 0 ∧ f2 r = []

theorem grp_start (xs : List Dot) : Grp xs 0 (fun _ => 0) (fun _ => []) :=
  ⟨fun r => ok_none (fun n => by rintro ⟨t, h, _⟩; omega), fun h => by omega, fun _ _ => ⟨rfl, rfl⟩⟩

/-- None of the places done bears the replica at place i. -/
theorem grp_new {xs : List Dot} {i : Nat} {f1 : Int → Int} {f2 : Int → List Span} (hs : Srt xs xs.length) (h : Grp xs i f1 f2) (hi : i < xs.length) : ∀ t, t < i → (at' xs t).1 ≠ (at' xs i).1 := by
  intro t ht e
  have hb := h.bd (by omega) hi
  by_cases e' : t = i - 1
  · subst e'; omega
  · have := hs t (i - 1) (by omega) (by omega)
    unfold le at this
    omega

theorem grp_zero {xs : List Dot} {i : Nat} {f1 : Int → Int} {f2 : Int → List Span} (hs : Srt xs xs.length) (h : Grp xs i f1 f2) (hi : i < xs.length) : f1 (at' xs i).1 = 0 ∧ f2 (at' xs i).1 = [] :=
  h.zero _ (grp_new hs h hi)

theorem grp_step {xs : List Dot} {i j : Nat} {f1 : Int → Int} {f2 : Int → List Span} {r : Int} {cs : List Int} {k0 : Nat} {sp : List Span} (hs : Srt xs xs.length) (h : Grp xs i f1 f2) (hi : i < xs.length) (hr : (at' xs i).1 = r)
    (hij : i < j) (hrun : ∀ t, i ≤ t → t < j → (at' xs t).1 = r) (hend : j < xs.length → (at' xs j).1 ≠ r) (hc : Cs xs i j cs) (hp : Pre cs k0) (hsp : Sp cs k0 cs.length sp) :
    Grp xs j (upd f1 r (k0 : Int)) (upd f2 r sp) := by
  have hnew := grp_new hs h hi
  rw [hr] at hnew
  refine ⟨fun x => ?_, fun _ hl => ?_, fun x hx => ?_⟩
  · by_cases e : x = r
    · subst e
      rw [upd_same, upd_same]
      refine ok_of (fun n => ?_) hp hsp
      rw [hc.mem]
      constructor
      · rintro ⟨t, h1, h2⟩
        refine ⟨t, ?_, h1, by rw [h2]⟩
        rcases Nat.lt_or_ge t i with hh | hh
        · exact absurd (by rw [h2]) (hnew t hh)
        · exact hh
      · rintro ⟨t, h1, h2, h3⟩
        exact ⟨t, h2, by rw [← h3, ← hrun t h1 h2]⟩
    · rw [upd_other _ _ e, upd_other _ _ e]
      refine ok_congr (h.ok x) (fun n => ?_)
      constructor
      · rintro ⟨t, h1, h2⟩
        refine ⟨t, ?_, h2⟩
        rcases Nat.lt_or_ge t i with hh | hh
        · exact hh
        · exact absurd ((by rw [h2] : x = (at' xs t).1).trans (hrun t hh h1)) e
      · rintro ⟨t, h1, h2⟩
        exact ⟨t, by omega, h2⟩
  · have h1 := hrun (j - 1) (by omega) (by omega)
    have h2 := hend hl
    have h3 := hs (j - 1) j (by omega) hl
    unfold le at h3
    omega
  · have e : x ≠ r := fun e => hx i hij (hr.trans e.symm)
    rw [upd_other _ _ e, upd_other _ _ e]
    exact h.zero x (fun t ht => hx t (by omega))

theorem grp_end {xs : List Dot} {f1 : Int → Int} {f2 : Int → List Span} (h : Grp xs xs.length f1 f2) (r n : Int) (hn : 0 < n) : (r, n) ∈ xs ↔ n ≤ f1 r ∨ Cov (f2 r) n := by
  rw [mem_at, ← (h.ok r).iff n hn]

/-- The run of one replica goes on. -/
theorem srt_counter {xs : List Dot} (hs : Srt xs xs.length) {a b : Nat} (hab : a < b) (hb : b < xs.length) (e : (at' xs a).1 = (at' xs b).1) : (at' xs a).2 ≤ (at' xs b).2 := by
  have := hs a b hab hb
  unfold le at this
  omega

/-! ### the whole -/
def hasB (ds : List Dot) (r n : Int) : Bool := decide (n ≠ 0 ∧ (r, n) ∈ ds)
def anyB (css : List (List Dot)) (r n : Int) : Bool := css.any (fun ds => hasB ds r n)

theorem any_cut (css : List (List Dot)) (cut : Nat) (r n : Int) : (anyB (css.take cut) r n || anyB (css.drop cut) r n) = anyB css r n := by
  unfold anyB
  rw [← List.any_append, List.take_append_drop]

end Go.Proofs.Qxb6615576a.Plain
