/-
  THE PLAIN LAW of seat b6615689a: the prefix of a release's files, as bytes.
-/
import Derived.Lib.Strings
namespace Go.Proofs.Qxb6615689a.Plain

theorem cut_unique {x x' : List UInt8} : ∀ (a a' : List UInt8), (95 : UInt8) ∉ a → (95 : UInt8) ∉ a' → a ++ 95 :: x = a' ++ 95 :: x' → a = a' ∧ x = x'
  | [], [], _, _, h => by simpa using h
  | [], b :: a', _, h', h => by simp at h; exact absurd h.1 (fun e => h' (by simp [← e]))
  | b :: a, [], h', _, h => by simp at h; exact absurd h.1 (fun e => h' (by simp [e]))
  | b :: a, b' :: a', h1, h2, h => by
    simp only [List.cons_append, List.cons.injEq] at h
    obtain ⟨e1, e2⟩ := cut_unique a a' (fun hh => h1 (by simp [hh])) (fun hh => h2 (by simp [hh])) h.2
    exact ⟨by rw [h.1, e1], e2⟩

def pfx : ByteArray := ⟨#[116, 101, 114, 114, 97, 102, 111, 114, 109, 45, 112, 114, 111, 118, 105, 100, 101, 114, 45]⟩
def us : ByteArray := ⟨#[95]⟩
def rel (s v : ByteArray) : ByteArray := pfx ++ s ++ us ++ v ++ us
def mid (s v : ByteArray) : ByteArray := s ++ us ++ v

theorem ba_ext {a b : ByteArray} (h : a.data.toList = b.data.toList) : a = b := by
  cases a; cases b; simp at h; simp [h]

theorem data_append (a b : ByteArray) : (a ++ b).data.toList = a.data.toList ++ b.data.toList := by
  rw [ByteArray.data_append]; simp

theorem size_toList (a : ByteArray) : a.data.toList.length = a.size := by rw [Array.length_toList]; rfl

theorem rel_list (s v : ByteArray) : (rel s v).data.toList = pfx.data.toList ++ (s.data.toList ++ 95 :: (v.data.toList ++ [95])) := by
  unfold rel
  rw [data_append, data_append, data_append, data_append]
  simp [us]

theorem mid_list (s v : ByteArray) : (mid s v).data.toList = s.data.toList ++ 95 :: v.data.toList := by
  unfold mid
  rw [data_append, data_append]
  simp [us]

theorem size_mid (s v : ByteArray) : (mid s v).size = s.size + 1 + v.size := by
  rw [← size_toList, mid_list]; simp; omega
theorem size_rel (s v : ByteArray) : (rel s v).size = 19 + s.size + 1 + v.size + 1 := by
  rw [← size_toList, rel_list]; simp [pfx]; omega
theorem size_pfx : pfx.size = 19 := rfl
theorem size_us : us.size = 1 := rfl

theorem rel_inj {s v s' v' : ByteArray} (h1 : (95 : UInt8) ∉ s.data.toList) (h2 : (95 : UInt8) ∉ s'.data.toList) (h : rel s v = rel s' v') : s = s' ∧ v = v' := by
  have e := congrArg (fun b => b.data.toList) h
  simp only [rel_list] at e
  have e := List.append_cancel_left e
  obtain ⟨e1, e2⟩ := cut_unique _ _ h1 h2 e
  exact ⟨ba_ext e1, ba_ext (List.append_cancel_right e2)⟩

theorem rel_front (s v : ByteArray) : (rel s v).extract 0 19 = pfx := by
  apply ba_ext
  rw [Lib.extract_data, rel_list]
  simp [pfx]
theorem rel_back (s v : ByteArray) : (rel s v).extract ((rel s v).size - 1) (rel s v).size = us := by
  apply ba_ext
  rw [Lib.extract_data, size_rel, rel_list]
  have : pfx.data.toList ++ (s.data.toList ++ 95 :: (v.data.toList ++ [95])) = (pfx.data.toList ++ (s.data.toList ++ 95 :: v.data.toList)) ++ [95] := by simp
  rw [this, List.drop_append_of_le_length (by simp [pfx]; omega), List.drop_of_length_le (by simp [pfx]; omega)]
  simp [us]
theorem rel_mid (s v : ByteArray) : (rel s v).extract 19 ((rel s v).size - 1) = mid s v := by
  apply ba_ext
  rw [Lib.extract_data, size_rel, rel_list, mid_list]
  have : pfx.data.toList ++ (s.data.toList ++ 95 :: (v.data.toList ++ [95])) = pfx.data.toList ++ ((s.data.toList ++ 95 :: v.data.toList) ++ [95]) := by simp
  rw [this, List.drop_append_of_le_length (by simp [pfx]), List.drop_of_length_le (by simp [pfx]), List.nil_append]
  have e : (s.data.toList ++ 95 :: v.data.toList).length = 19 + s.size + 1 + v.size + 1 - 1 - 19 := by simp; omega
  rw [← e, List.take_left]

theorem mid_front (s v : ByteArray) : (mid s v).extract 0 s.size = s := by
  apply ba_ext
  rw [Lib.extract_data, mid_list]
  simp
theorem mid_back (s v : ByteArray) : (mid s v).extract (s.size + 1) (mid s v).size = v := by
  apply ba_ext
  rw [Lib.extract_data, size_mid, mid_list]
  have : s.data.toList ++ 95 :: v.data.toList = (s.data.toList ++ [95]) ++ v.data.toList := by simp
  rw [this, List.drop_append_of_le_length (by simp), List.drop_of_length_le (by simp), List.nil_append, List.take_of_length_le (by simp)]

theorem get_list (s : ByteArray) (k : Nat) (h : k < s.size) : s.data.toList[k]? = some s[k] := by
  rw [List.getElem?_eq_getElem (by rw [size_toList]; exact h)]; rfl

/-- The byte at place k is the mark just at the end of s. -/
theorem mid_byte {s v m : ByteArray} (hm : mid s v = m) (hs : (95 : UInt8) ∉ s.data.toList) (hv : (95 : UInt8) ∉ v.data.toList) (k : Nat) (hk : k < m.size) : (((m[k]'hk).toNat : Int) == 95) = decide (k = s.size) := by
  have g := get_list m k hk
  subst hm
  rw [mid_list] at g
  have key : ∀ b : UInt8, ((b.toNat : Int) == 95) = decide (b = 95) := by
    intro b
    by_cases e : b = 95
    · subst e; rfl
    · rw [decide_eq_false e, beq_eq_false_iff_ne]
      intro h
      apply e
      apply UInt8.toNat_inj.1
      show b.toNat = 95
      omega
  rw [key]
  by_cases h1 : k < s.size
  · rw [List.getElem?_append_left (by rw [size_toList]; exact h1)] at g
    rw [decide_eq_false (by omega : ¬ k = s.size), decide_eq_false_iff_not]
    intro e
    rw [e] at g
    exact hs (List.mem_of_getElem? g)
  · rw [List.getElem?_append_right (by rw [size_toList]; omega), size_toList] at g
    by_cases h2 : k = s.size
    · rw [decide_eq_true h2, decide_eq_true_iff]
      rw [show k - s.size = 0 from by omega] at g
      simp at g
      exact g.symm
    · rw [decide_eq_false h2, decide_eq_false_iff_not]
      intro e
      rw [e] at g
      obtain ⟨j, hj⟩ : ∃ j, k - s.size = j + 1 := ⟨k - s.size - 1, by omega⟩
      rw [hj, List.getElem?_cons_succ] at g
      exact hv (List.mem_of_getElem? g)

theorem beq_list {a b : ByteArray} : (a.toList == b.toList) = decide (a = b) := by
  rw [Lib.toList_data, Lib.toList_data]
  by_cases e : a = b
  · rw [decide_eq_true e, e]; simp
  · rw [decide_eq_false e, beq_eq_false_iff_ne]
    exact fun h => e (ba_ext h)

end Go.Proofs.Qxb6615689a.Plain
