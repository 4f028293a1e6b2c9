import Derived.Test.Qxb6603973aDa
namespace Go.Proofs.Qxb6603973a
open Go.RowKit

theorem bext {a b : ByteArray} (h : a.data.toList = b.data.toList) : a = b := by
  cases a; cases b; simp at h; simp [h]

theorem get_of {t : ByteArray} {k : Nat} (h : k < t.size) {x : UInt8} (e : t.data.toList[k]? = some x) : t[k]'h = x := by
  rw [Array.getElem?_toList] at e
  exact (Array.getElem?_eq_some_iff.1 e).2
theorem of_get {t : ByteArray} {k : Nat} (h : k < t.size) : t.data.toList[k]? = some (t[k]'h) := by
  rw [Array.getElem?_toList]
  exact Array.getElem?_eq_some_iff.2 ⟨h, rfl⟩
theorem len_of (t : ByteArray) : t.data.toList.length = t.size := by rw [Array.length_toList]; rfl

/-- What stands behind the sign. -/
def tl (a b : ByteArray) : ByteArray := if b.size = 0 then a else a ++ ({ data := #[46] } ++ b)

theorem tl_data (a b : ByteArray) (hb : ¬ b.size = 0) : (tl a b).data.toList = a.data.toList ++ 46 :: b.data.toList := by
  unfold tl; rw [if_neg hb]; simp [ByteArray.data_append]

theorem tl_size (a b : ByteArray) (hb : ¬ b.size = 0) : (tl a b).size = a.size + 1 + b.size := by
  rw [← len_of, tl_data a b hb, List.length_append, List.length_cons, len_of, len_of]; omega

theorem tl_ge (a b : ByteArray) : a.size ≤ (tl a b).size := by
  by_cases hb : b.size = 0
  · unfold tl; rw [if_pos hb]; exact Nat.le_refl _
  · rw [tl_size a b hb]; omega

theorem tl_low (a b : ByteArray) (k : Nat) (h : k < (tl a b).size) (hk : k < a.size) : (tl a b)[k]'h = a[k]'hk := by
  by_cases hb : b.size = 0
  · have e : tl a b = a := by unfold tl; rw [if_pos hb]
    simp only [e]
  · apply get_of
    rw [tl_data a b hb, List.getElem?_append_left (by rw [len_of]; exact hk)]
    exact of_get hk

theorem tl_dot (a b : ByteArray) (hb : ¬ b.size = 0) (h : a.size < (tl a b).size) : (tl a b)[a.size]'h = 46 := by
  apply get_of
  rw [tl_data a b hb, List.getElem?_append_right (by rw [len_of]; exact Nat.le_refl _), len_of]
  simp

theorem tl_left (a b : ByteArray) (hb : ¬ b.size = 0) : (tl a b).extract 0 a.size = a := by
  apply bext
  rw [ByteArray.data_extract, Array.toList_extract, tl_data a b hb, ← len_of a]
  simp

theorem tl_right (a b : ByteArray) (hb : ¬ b.size = 0) : (tl a b).extract (a.size + 1) (tl a b).size = b := by
  apply bext
  rw [ByteArray.data_extract, Array.toList_extract, tl_size a b hb, tl_data a b hb, List.extract_eq_take_drop]
  have e1 : (a.data.toList ++ 46 :: b.data.toList).drop (a.size + 1) = b.data.toList := by
    rw [← len_of a, List.drop_append]; simp
  rw [e1]
  exact List.take_of_length_le (by rw [len_of]; omega)

theorem full_pos (a b : ByteArray) : (full true a b).extract 1 (full true a b).size = tl a b ∧ ∃ h : 0 < (full true a b).size, (full true a b)[0]'h = 45 := by
  have e : full true a b = { data := #[45] } ++ tl a b := by
    by_cases hb : b.size = 0
    · simp only [full, tl, hb, if_true]
    · simp only [full, tl, hb, if_true, if_false]
  have hd : (full true a b).data.toList = 45 :: (tl a b).data.toList := by rw [e]; simp [ByteArray.data_append]
  have hs : (full true a b).size = (tl a b).size + 1 := by rw [← len_of, hd, List.length_cons, len_of]
  refine ⟨?_, by omega, ?_⟩
  · apply bext
    rw [ByteArray.data_extract, Array.toList_extract, hd, hs, List.extract_eq_take_drop]
    simp
    exact List.take_of_length_le (by rw [Array.length_toList]; exact Nat.le_refl _)
  · apply get_of; rw [hd]; rfl

theorem full_neg (a b : ByteArray) : full false a b = tl a b := by unfold full tl; simp

theorem tl_head (a b : ByteArray) (ha : Dig a) (h : 0 < (tl a b).size) : (((tl a b)[0]'h).toNat : Int) ≠ 45 := by
  by_cases h0 : 0 < a.size
  · rw [tl_low a b 0 h h0]; have := ha 0 h0; omega
  · by_cases hb : b.size = 0
    · exfalso; unfold tl at h; rw [if_pos hb] at h; omega
    · have e : a.size = 0 := by omega
      have : (tl a b)[0]'h = 46 := by
        have := tl_dot a b hb (by omega)
        simp only [e] at this
        exact this
      rw [this]; decide
end Go.Proofs.Qxb6603973a
