namespace Go.Proofs.Qxb6603906a.Pl

/-- The number's text but for its sign: the digits ds, of which the first weighs ten to the (e - 1). -/
def body (ds : List Int) (e : Int) : List Int :=
  if e ≤ 0 then 48 :: 46 :: (List.replicate (-e).toNat 48 ++ ds)
  else if e < ds.length then ds.take e.toNat ++ 46 :: ds.drop e.toNat
  else ds ++ List.replicate (e - ds.length).toNat 48

def text (neg : Bool) (ds : List Int) (e : Int) : List Int :=
  if ds = [] then [48] else (if neg then [45] else []) ++ body ds e

theorem body_len (ds : List Int) (e : Int) (h : ds ≠ []) : ((body ds e).length : Int) = if e ≤ 0 then (ds.length : Int) + (2 - e) else if e < ds.length then (ds.length : Int) + 1 else e := by
  have : 0 < ds.length := List.length_pos_iff.2 h
  unfold body
  split
  · simp; omega
  · split
    · simp; omega
    · simp; omega

theorem body_bd (ds : List Int) (e : Int) (h : ds.length ≤ 524288) (h1 : e ≤ 65536) (h2 : -65536 ≤ e) : (body ds e).length ≤ 600000 := by
  unfold body
  split
  · simp; omega
  · split
    · simp; omega
    · simp; omega

theorem text_bd (neg : Bool) (ds : List Int) (e : Int) (h : ds.length ≤ 524288) (h1 : e ≤ 65536) (h2 : -65536 ≤ e) : (text neg ds e).length ≤ 600001 := by
  have := body_bd ds e h h1 h2
  unfold text
  split
  · simp
  · cases neg <;> simp <;> omega

/-- The digit that weighs ten to the (e - i), i from 1. -/
def dg (ds : List Int) (i : Int) : Int := if 1 ≤ i ∧ i ≤ ds.length then ds.getD (i - 1).toNat 48 else 48

/-- k digits from place i on. -/
def dgs (ds : List Int) (i : Int) (k : Nat) : List Int := (List.range k).map fun j : Nat => dg ds (i + (j : Int))

theorem dgs_zero (ds : List Int) (i : Int) : dgs ds i 0 = [] := rfl
theorem dgs_snoc (ds : List Int) (i : Int) (k : Nat) : dgs ds i (k + 1) = dgs ds i k ++ [dg ds (i + k)] := by
  unfold dgs; rw [List.range_succ]; simp
theorem dgs_len (ds : List Int) (i : Int) (k : Nat) : (dgs ds i k).length = k := by simp [dgs]

theorem dgs_get (ds : List Int) (i : Int) (k : Nat) (j : Nat) (h : j < k) : (dgs ds i k)[j]? = some (dg ds (i + j)) := by
  simp [dgs, h]

theorem dgs_zeros (ds : List Int) (k : Nat) (i : Int) (h : i + k ≤ 1) : dgs ds i k = List.replicate k 48 := by
  apply List.ext_getElem?
  intro j
  by_cases hj : j < k
  · rw [dgs_get _ _ _ _ hj]
    simp only [List.getElem?_replicate, hj, if_true]
    unfold dg
    rw [if_neg (by omega)]
  · rw [List.getElem?_eq_none (by rw [dgs_len]; omega), List.getElem?_eq_none (by simp; omega)]

theorem dgs_some (ds : List Int) (a k : Nat) (h : a + k ≤ ds.length) : dgs ds (a + 1) k = (ds.drop a).take k := by
  apply List.ext_getElem?
  intro j
  by_cases hj : j < k
  · rw [dgs_get _ _ _ _ hj, List.getElem?_take, if_pos hj, List.getElem?_drop]
    unfold dg
    rw [if_pos (by omega), show ((a : Int) + 1 + j - 1).toNat = a + j from by omega]
    simp [List.getD, show a + j < ds.length by omega]
  · rw [List.getElem?_eq_none (by rw [dgs_len]; omega), List.getElem?_eq_none (by simp; omega)]

theorem dgs_add (ds : List Int) (i : Int) (k m : Nat) : dgs ds i (k + m) = dgs ds i k ++ dgs ds (i + k) m := by
  induction m with
  | zero => simp [dgs]
  | succ m ih => rw [← Nat.add_assoc, dgs_snoc, ih, dgs_snoc, List.append_assoc]; congr 3; congr 1; omega

theorem dgs_past (ds : List Int) (k : Nat) (i : Int) (h : (ds.length : Int) < i) : dgs ds i k = List.replicate k 48 := by
  apply List.ext_getElem?
  intro j
  by_cases hj : j < k
  · rw [dgs_get _ _ _ _ hj]
    simp only [List.getElem?_replicate, hj, if_true]
    unfold dg
    rw [if_neg (by omega)]
  · rw [List.getElem?_eq_none (by rw [dgs_len]; omega), List.getElem?_eq_none (by simp; omega)]

/-- What the model writes: the whole part by weights from 'top' down to 0, then, where the last digit weighs less than one, the point and the rest. -/
theorem body_is (ds : List Int) (e : Int) (top : Nat) (ht : (top : Int) = if e - 1 < 0 then 0 else e - 1) (hd : ds ≠ []) :
    body ds e = dgs ds (e - top) (top + 1) ++ (if e - ds.length < 0 then 46 :: dgs ds (e + 1) (ds.length - e).toNat else []) := by
  have hl : 0 < ds.length := List.length_pos_iff.2 hd
  unfold body
  by_cases h1 : e ≤ 0
  · rw [if_pos h1, if_pos (by omega)]
    rw [if_pos (by omega)] at ht
    obtain rfl : top = 0 := by omega
    have e1 : dgs ds (e - (0 : Nat)) (0 + 1) = [48] := by rw [dgs_zeros ds 1 _ (by omega)]; rfl
    have e2 : (ds.length - e).toNat = (-e).toNat + ds.length := by omega
    rw [e1, e2, dgs_add, dgs_zeros ds _ _ (by omega), show e + 1 + ((-e).toNat : Int) = ((0 : Nat) : Int) + 1 from by omega, dgs_some ds 0 ds.length (by omega)]
    simp
  · rw [if_neg h1]
    rw [if_neg (by omega)] at ht
    have e1 : e - (top : Int) = ((0 : Nat) : Int) + 1 := by omega
    by_cases h2 : e < ds.length
    · rw [if_pos h2, if_pos (by omega), e1, dgs_some ds 0 (top + 1) (by omega)]
      have e2 : e = ((e.toNat : Nat) : Int) := by omega
      have e3 : dgs ds (e + 1) (ds.length - e).toNat = ds.drop e.toNat := by
        rw [e2, dgs_some ds e.toNat _ (by omega)]
        apply List.take_of_length_le
        simp; omega
      rw [e3, show top + 1 = e.toNat from by omega]
      simp
    · rw [if_neg h2, if_neg (by omega), e1, show top + 1 = ds.length + (e - ds.length).toNat from by omega, dgs_add, dgs_some ds 0 ds.length (by omega), dgs_past ds _ _ (by omega)]
      simp

end Go.Proofs.Qxb6603906a.Pl
