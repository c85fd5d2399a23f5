/-
  THE PLAIN LAW of seat b6615561a: a ring of links kept in two lists of numbers; what the walk along it finds; what taking a member out does. No Go here.
-/
namespace Go.Proofs.Qxb6615561a.Ring

/-- The entry at the number x. -/
def g (l : List Int) (x : Int) : Int := l.getD x.toNat 0

/-- The walk along 'next', as the Go text goes: with so many steps left, at 'cur', having met 'wk'. -/
def lw (nx pv : List Int) (s : Int) : Nat → Int → List Int → Option (List Int)
  | 0, _, _ => none
  | f + 1, cur, wk =>
    if g nx cur < 0 ∨ (nx.length : Int) ≤ g nx cur then none
    else if g pv (g nx cur) ≠ cur then none
    else if g nx cur = s then some wk
    else if g nx cur ∈ wk then none
    else lw nx pv s f (g nx cur) (wk ++ [g nx cur])

/-- A road from a along the list: each step is told by both lists. -/
def Path (nx pv : List Int) : Int → List Int → Prop
  | _, [] => True
  | a, b :: t => g nx a = b ∧ g pv b = a ∧ Path nx pv b t

def InR (m : Nat) (x : Int) : Prop := 0 ≤ x ∧ x < (m : Int)

/-- A ring through the sentinel m - 1 with the members wk. -/
structure Good (m : Nat) (nx pv wk : List Int) : Prop where
  ln : nx.length = m
  lp : pv.length = m
  path : Path nx pv ((m : Int) - 1) (wk ++ [(m : Int) - 1])
  nodup : wk.Nodup
  off : (m : Int) - 1 ∉ wk
  inr : ∀ x ∈ wk, InR m x
  short : wk.length < m

theorem g_set {l : List Int} {p v x : Int} (hp : InR l.length p) (hx : InR l.length x) : g (l.set p.toNat v) x = if x = p then v else g l x := by
  unfold g InR at *
  rw [List.getD_eq_getElem?_getD, List.getD_eq_getElem?_getD, List.getElem?_set]
  by_cases h : x = p
  · subst h; rw [if_pos rfl, if_pos rfl, if_pos (by omega)]; rfl
  · rw [if_neg (by omega), if_neg h]

theorem path_snoc {nx pv : List Int} : ∀ (l : List Int) (a b : Int) (r : List Int), Path nx pv a (l ++ b :: r) ↔ Path nx pv a (l ++ [b]) ∧ Path nx pv b r
  | [], a, b, r => by simp [Path, and_assoc]
  | c :: l, a, b, r => by
    simp only [List.cons_append, Path]
    rw [path_snoc l c b r]
    simp [and_assoc]

theorem path_congr {nx pv nx' pv' : List Int} : ∀ (l : List Int) (a b : Int), (∀ x, x = a ∨ x ∈ l → g nx' x = g nx x) → (∀ x, x = b ∨ x ∈ l → g pv' x = g pv x) → Path nx pv a (l ++ [b]) → Path nx' pv' a (l ++ [b])
  | [], a, b, h1, h2, h => by
    simp only [List.nil_append, Path, and_true] at h ⊢
    rw [h1 a (.inl rfl), h2 b (.inl rfl)]; exact h
  | c :: l, a, b, h1, h2, h => by
    simp only [List.cons_append, Path] at h ⊢
    refine ⟨by rw [h1 a (.inl rfl)]; exact h.1, by rw [h2 c (.inr (by simp))]; exact h.2.1, path_congr l c b (fun x hx => h1 x ?_) (fun x hx => h2 x ?_) h.2.2⟩
    · right; rcases hx with rfl | hx <;> simp [*]
    · rcases hx with rfl | hx <;> simp [*]

/-- What the walk finds, told from any of its places. -/
theorem lw_path {nx pv : List Int} {s : Int} : ∀ (f : Nat) (cur : Int) (wk out : List Int), lw nx pv s f cur wk = some out →
    wk.Nodup → s ∉ wk → (∀ x ∈ wk, InR nx.length x) →
    ∃ t, out = wk ++ t ∧ Path nx pv cur (t ++ [s]) ∧ out.Nodup ∧ s ∉ out ∧ (∀ x ∈ out, InR nx.length x) ∧ t.length < f
  | 0, _, _, _, h, _, _, _ => by simp [lw] at h
  | f + 1, cur, wk, out, h, hn, hs, hr => by
    unfold lw at h
    by_cases c1 : g nx cur < 0 ∨ (nx.length : Int) ≤ g nx cur
    · rw [if_pos c1] at h; cases h
    rw [if_neg c1] at h
    by_cases c2 : g pv (g nx cur) ≠ cur
    · rw [if_pos c2] at h; cases h
    rw [if_neg c2] at h
    have c2' : g pv (g nx cur) = cur := Classical.not_not.1 c2
    by_cases c3 : g nx cur = s
    · rw [if_pos c3] at h; cases h
      refine ⟨[], by simp, ?_, hn, hs, hr, by simp⟩
      simp only [List.nil_append, Path, and_true]
      exact ⟨c3, by rw [← c3]; exact c2'⟩
    rw [if_neg c3] at h
    by_cases c4 : g nx cur ∈ wk
    · rw [if_pos c4] at h; cases h
    rw [if_neg c4] at h
    have hin : InR nx.length (g nx cur) := by unfold InR; omega
    obtain ⟨t, rfl, hp, h1, h2, h3, h4⟩ := lw_path f _ _ _ h
      (by rw [List.nodup_append]; exact ⟨hn, by simp, fun a ha b hb => by simp at hb; subst hb; intro e; exact c4 (e ▸ ha)⟩)
      (by simp only [List.mem_append, List.mem_singleton, not_or]; exact ⟨hs, fun e => c3 e.symm⟩)
      (by intro x hx; simp only [List.mem_append, List.mem_singleton] at hx; rcases hx with hx | rfl; exact hr x hx; exact hin)
    refine ⟨g nx cur :: t, by simp, ?_, h1, h2, h3, by simp; omega⟩
    simp only [List.cons_append, Path]
    exact ⟨trivial, c2', hp⟩

/-- A road that both lists tell is found by the walk. -/
theorem path_lw {nx pv : List Int} {s : Int} (hsr : InR nx.length s) : ∀ (t : List Int) (f : Nat) (cur : Int) (wk : List Int), Path nx pv cur (t ++ [s]) → (wk ++ t).Nodup → s ∉ t → (∀ x ∈ t, InR nx.length x) → t.length < f → lw nx pv s f cur wk = some (wk ++ t)
  | [], 0, _, _, _, _, _, _, h => by simp at h
  | [], f + 1, cur, wk, hp, _, _, _, _ => by
    simp only [List.nil_append, Path, and_true] at hp
    unfold lw
    unfold InR at hsr
    rw [hp.1, if_neg (by omega), if_neg (by simp [hp.2]), if_pos rfl]; simp
  | b :: t, 0, _, _, _, _, _, _, h => by simp at h
  | b :: t, f + 1, cur, wk, hp, hn, hs, hr, hl => by
    simp only [List.cons_append, Path] at hp
    have hb := hr b (by simp)
    unfold InR at hb
    have hbs : ¬ b = s := fun e => hs (by simp [e])
    have hbw : b ∉ wk := by
      rw [List.nodup_append] at hn
      exact fun h => hn.2.2 b h b (by simp) rfl
    unfold lw
    rw [hp.1, if_neg (by omega), if_neg (by simp [hp.2.1]), if_neg hbs, if_neg hbw]
    rw [path_lw hsr t f b (wk ++ [b]) hp.2.2 (by simpa using hn) (fun h => hs (by simp [h])) (fun x hx => hr x (by simp [hx])) (by simp at hl; omega)]
    simp

theorem good_of {m : Nat} {nx pv wk : List Int} (hn : nx.length = m) (hp : pv.length = m) (h : lw nx pv ((m : Int) - 1) m ((m : Int) - 1) [] = some wk) : Good m nx pv wk := by
  obtain ⟨t, rfl, h1, h2, h3, h4, h5⟩ := lw_path m _ _ _ h (by simp) (by simp) (by simp)
  rw [hn] at h4
  exact ⟨hn, hp, by simpa using h1, h2, h3, h4, by simpa using h5⟩

theorem of_good {m : Nat} {nx pv wk : List Int} (h : Good m nx pv wk) : lw nx pv ((m : Int) - 1) m ((m : Int) - 1) [] = some wk := by
  have hs := h.short
  have := path_lw (nx := nx) (pv := pv) (s := (m : Int) - 1) (by rw [h.ln]; unfold InR; omega) wk m ((m : Int) - 1) [] h.path (by simpa using h.nodup) h.off (by rw [h.ln]; exact h.inr) h.short
  simpa using this

/-- Taking i out: what the Go text stores. -/
def rn (nx pv : List Int) (i : Int) : List Int := nx.set (g pv i).toNat (g nx i)
def rp (nx pv : List Int) (i : Int) : List Int := pv.set (g nx i).toNat (g pv i)

/-- The neighbours of a member, and what is kept. -/
theorem good_split {m : Nat} {nx pv wk : List Int} (h : Good m nx pv wk) {i : Int} (hi : i ∈ wk) :
    ∃ l1 l2, wk = l1 ++ i :: l2 ∧ i ∉ l1 ∧ i ∉ l2 := by
  obtain ⟨l1, l2, rfl⟩ := List.append_of_mem hi
  have hn := h.nodup
  rw [List.nodup_append] at hn
  refine ⟨l1, l2, rfl, fun hx => hn.2.2 i hx i (by simp) rfl, ?_⟩
  have := hn.2.1
  rw [List.nodup_cons] at this
  exact this.1

theorem filter_split {l1 l2 : List Int} {i : Int} (h1 : i ∉ l1) (h2 : i ∉ l2) : (l1 ++ i :: l2).filter (fun x => x != i) = l1 ++ l2 := by
  have key : ∀ l : List Int, i ∉ l → l.filter (fun x => x != i) = l := fun l h => List.filter_eq_self.2 fun x hx => by simp; intro e; exact h (e ▸ hx)
  rw [List.filter_append, List.filter_cons, key l1 h1, key l2 h2]
  simp

/-- The member ahead of the end of a road. -/
theorem path_last {nx pv : List Int} : ∀ (l : List Int) (a b : Int), Path nx pv a (l ++ [b]) → g pv b ∈ a :: l
  | [], a, b, h => by
    simp only [List.nil_append, Path, and_true] at h
    simp [h.2]
  | c :: l, a, b, h => by
    simp only [List.cons_append, Path] at h
    exact List.mem_cons_of_mem _ (path_last l c b h.2.2)

/-- A road whose last step is turned elsewhere. -/
theorem path_end {nx pv nx' pv' : List Int} {b' : Int} : ∀ (l : List Int) (a b : Int), Path nx pv a (l ++ [b]) → (a :: l).Nodup → (∀ x ∈ a :: l, x ≠ g pv b → g nx' x = g nx x) → (∀ x ∈ l, g pv' x = g pv x) →
    g nx' (g pv b) = b' → g pv' b' = g pv b → Path nx' pv' a (l ++ [b'])
  | [], a, b, h, _, _, _, h3, h4 => by
    simp only [List.nil_append, Path, and_true] at h ⊢
    rw [h.2] at h3 h4
    exact ⟨h3, h4⟩
  | c :: l, a, b, h, hn, h1, h2, h3, h4 => by
    simp only [List.cons_append, Path] at h ⊢
    have hl := path_last l c b h.2.2
    rw [List.nodup_cons] at hn
    have ha : a ≠ g pv b := fun e => hn.1 (e ▸ hl)
    exact ⟨by rw [h1 a (by simp) ha]; exact h.1, by rw [h2 c (by simp)]; exact h.2.1, path_end l c b h.2.2 hn.2 (fun x hx => h1 x (List.mem_cons_of_mem _ hx)) (fun x hx => h2 x (List.mem_cons_of_mem _ hx)) h3 h4⟩

/-- All that is wanted of a member i of a ring. -/
structure Near (m : Nat) (nx pv wk : List Int) (i : Int) : Prop where
  inI : InR m i
  inP : InR m (g pv i)
  inN : InR m (g nx i)
  ne : g pv i ≠ i
  memP : g pv i = (m : Int) - 1 ∨ g pv i ∈ wk
  memN : g nx i = (m : Int) - 1 ∨ g nx i ∈ wk
  good : Good m (rn nx pv i) (rp nx pv i) (wk.filter (fun x => x != i))

theorem near {m : Nat} {nx pv wk : List Int} (h : Good m nx pv wk) {i : Int} (hi : i ∈ wk) : Near m nx pv wk i := by
  obtain ⟨l1, l2, rfl, h1, h2⟩ := good_split h hi
  have hf := filter_split h1 h2
  have hsh := h.short
  have hS : InR m ((m : Int) - 1) := by unfold InR; omega
  have hpa := h.path
  have hoff := h.off
  have hnd := h.nodup
  rw [List.append_assoc, List.cons_append, path_snoc] at hpa
  obtain ⟨pA, pB⟩ := hpa
  have hP := path_last _ _ _ pA
  have hn1 : (((m : Int) - 1) :: l1).Nodup := by
    rw [List.nodup_append] at hnd
    rw [List.nodup_cons]
    exact ⟨fun hx => hoff (by simp [hx]), hnd.1⟩
  have inP : InR m (g pv i) := by
    rcases List.mem_cons.1 hP with e | e
    · rw [e]; exact hS
    · exact h.inr _ (by simp [e])
  have inI := h.inr i hi
  have ne : g pv i ≠ i := by
    intro e
    rw [e] at hP
    rcases List.mem_cons.1 hP with e | e
    · exact hoff (by rw [← e]; exact hi)
    · exact h1 e
  have dis : ∀ x, x ∈ l1 → x ∈ l2 → False := by
    intro x hx hy
    rw [List.nodup_append] at hnd
    exact hnd.2.2 x hx x (by simp [hy]) rfl
  have s1 : (m : Int) - 1 ∉ l1 := fun hx => hoff (by simp [hx])
  have s2 : (m : Int) - 1 ∉ l2 := fun hx => hoff (by simp [hx])
  have r1 : ∀ x ∈ l1, InR m x := fun x hx => h.inr x (by simp [hx])
  have r2 : ∀ x ∈ l2, InR m x := fun x hx => h.inr x (by simp [hx])
  have gN : ∀ x, InR m x → g (rn nx pv i) x = if x = g pv i then g nx i else g nx x := fun x hx => g_set (by rw [h.ln]; exact inP) (by rw [h.ln]; exact hx)
  -- what is common to both forms of the end
  have fin : ∀ (inN : InR m (g nx i)) (hN : g nx i ∈ l2 ++ [(m : Int) - 1]), Path (rn nx pv i) (rp nx pv i) ((m : Int) - 1) (l1 ++ [g nx i]) := by
    intro inN hN
    have gP : ∀ x, InR m x → g (rp nx pv i) x = if x = g nx i then g pv i else g pv x := fun x hx => g_set (by rw [h.lp]; exact inN) (by rw [h.lp]; exact hx)
    refine path_end l1 _ i pA hn1 (fun x hx hne => ?_) (fun x hx => ?_) ?_ ?_
    · have : InR m x := by rcases List.mem_cons.1 hx with e | e; rw [e]; exact hS; exact r1 x e
      rw [gN x this, if_neg hne]
    · rw [gP x (r1 x hx), if_neg]
      intro e; subst e
      rcases List.mem_append.1 hN with e | e
      · exact dis _ hx e
      · simp at e; exact s1 (e ▸ hx)
    · rw [gN _ inP, if_pos rfl]
    · rw [gP _ inN, if_pos rfl]
  have ndf : (l1 ++ l2).Nodup := by
    rw [List.nodup_append] at hnd ⊢
    exact ⟨hnd.1, (List.nodup_cons.1 hnd.2.1).2, fun a ha b hb => hnd.2.2 a ha b (by simp [hb])⟩
  have offf : (m : Int) - 1 ∉ l1 ++ l2 := by simp [s1, s2]
  have inf : ∀ x ∈ l1 ++ l2, InR m x := fun x hx => by rcases List.mem_append.1 hx with e | e; exact r1 x e; exact r2 x e
  have shf : (l1 ++ l2).length < m := by simp at hsh ⊢; omega
  match l2, pB, h2, hf, hsh, dis, s2, r2, fin, ndf, offf, inf, shf, hi with
  | [], pB, h2, hf, hsh, dis, s2, r2, fin, ndf, offf, inf, shf, hi =>
    simp only [List.nil_append, Path, and_true] at pB
    have inN : InR m (g nx i) := by rw [pB.1]; exact hS
    refine ⟨inI, inP, inN, ne, ?_, .inl pB.1, ?_⟩
    · rcases List.mem_cons.1 hP with e | e
      · exact .inl e
      · exact .inr (by simp [e])
    · rw [hf]
      refine ⟨by simp [rn, h.ln], by simp [rp, h.lp], ?_, ndf, offf, inf, shf⟩
      have := fin inN (by simp [pB.1])
      rw [pB.1] at this
      simpa using this
  | c :: l2, pB, h2, hf, hsh, dis, s2, r2, fin, ndf, offf, inf, shf, hi =>
    simp only [List.cons_append, Path] at pB
    obtain ⟨e1, e2, pC⟩ := pB
    have inN : InR m (g nx i) := by rw [e1]; exact r2 c (by simp)
    refine ⟨inI, inP, inN, ne, ?_, .inr (by simp [e1]), ?_⟩
    · rcases List.mem_cons.1 hP with e | e
      · exact .inl e
      · exact .inr (by simp [e])
    · rw [hf]
      refine ⟨by simp [rn, h.ln], by simp [rp, h.lp], ?_, ndf, offf, inf, shf⟩
      have gP : ∀ x, InR m x → g (rp nx pv i) x = if x = g nx i then g pv i else g pv x := fun x hx => g_set (by rw [h.lp]; exact inN) (by rw [h.lp]; exact hx)
      have hA := fin inN (by simp [e1])
      rw [e1] at hA
      have hc2 : c ∉ l2 := by
        rw [List.nodup_append] at hnd
        have := (List.nodup_cons.1 hnd.2.1).2
        exact (List.nodup_cons.1 this).1
      rw [List.append_assoc, List.cons_append, path_snoc]
      refine ⟨hA, path_congr l2 c _ (fun x hx => ?_) (fun x hx => ?_) pC⟩
      · have hxm : x ∈ c :: l2 := by rcases hx with rfl | hx <;> simp [*]
        rw [gN x (r2 x hxm), if_neg]
        intro e; subst e
        rcases List.mem_cons.1 hP with e | e
        · rw [e] at hxm; exact s2 hxm
        · exact dis _ e hxm
      · have hxr : InR m x := by rcases hx with rfl | hx; exact hS; exact r2 x (by simp [hx])
        rw [gP x hxr, if_neg]
        rw [e1]
        intro e; subst e
        rcases hx with hx | hx
        · exact s2 (by simp [← hx])
        · exact hc2 hx

/-- Off the ring nothing is turned. -/
theorem rn_off {m : Nat} {nx pv wk : List Int} (h : Good m nx pv wk) {i : Int} (hi : i ∈ wk) {x : Int} (hx : InR m x) (h1 : x ≠ (m : Int) - 1) (h2 : x ∉ wk) : g (rn nx pv i) x = g nx x ∧ g (rp nx pv i) x = g pv x := by
  have k := near h hi
  refine ⟨?_, ?_⟩
  · rw [rn, g_set (by rw [h.ln]; exact k.inP) (by rw [h.ln]; exact hx), if_neg]
    intro e; subst e
    rcases k.memP with e | e
    · exact h1 e
    · exact h2 e
  · rw [rp, g_set (by rw [h.lp]; exact k.inN) (by rw [h.lp]; exact hx), if_neg]
    intro e; subst e
    rcases k.memN with e | e
    · exact h1 e
    · exact h2 e

/-- The member that was taken out keeps its own two entries. -/
theorem rn_self {m : Nat} {nx pv wk : List Int} (h : Good m nx pv wk) {i : Int} (hi : i ∈ wk) : g (rn nx pv i) i = g nx i ∧ g (rp nx pv i) i = g pv i := by
  have k := near h hi
  refine ⟨?_, ?_⟩
  · rw [rn, g_set (by rw [h.ln]; exact k.inP) (by rw [h.ln]; exact k.inI), if_neg (fun e => k.ne e.symm)]
  · rw [rp, g_set (by rw [h.lp]; exact k.inN) (by rw [h.lp]; exact k.inI)]
    split <;> rfl

end Go.Proofs.Qxb6615561a.Ring
