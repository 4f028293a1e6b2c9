namespace Go.Proofs.Qxb6604018a.Pl

/-- How many of the values before hi, from lo on, are r. -/
def cr (ls : List (List UInt8)) (lo hi : Nat) (r : List UInt8) : Nat := ((ls.take hi).drop lo).count r

theorem cr_empty (ls : List (List UInt8)) (lo hi : Nat) (r : List UInt8) (h : hi ≤ lo) : cr ls lo hi r = 0 := by
  unfold cr; rw [List.drop_eq_nil_of_le (by simp; omega)]; rfl

theorem cr_snoc (ls : List (List UInt8)) (lo hi : Nat) (r : List UInt8) (h : lo ≤ hi) (hl : hi < ls.length) : cr ls lo (hi + 1) r = cr ls lo hi r + (if ls[hi] = r then 1 else 0) := by
  unfold cr
  rw [List.take_succ_eq_append_getElem hl, List.drop_append_of_le_length (by simp; omega), List.count_append]
  by_cases e : ls[hi] = r
  · rw [if_pos e, e]; simp
  · rw [if_neg e, List.count_cons_of_ne e]; simp

theorem cr_one (ls : List (List UInt8)) (lo : Nat) (r : List UInt8) (hl : lo < ls.length) : cr ls lo (lo + 1) r = if ls[lo] = r then 1 else 0 := by
  rw [cr_snoc ls lo lo r (Nat.le_refl _) hl, cr_empty ls lo lo r (Nat.le_refl _), Nat.zero_add]

theorem cr_split (ls : List (List UInt8)) (lo mid hi : Nat) (r : List UInt8) (h1 : lo ≤ mid) (h2 : mid ≤ hi) (hl : hi ≤ ls.length) : cr ls lo hi r = cr ls lo mid r + cr ls mid hi r := by
  induction hi with
  | zero =>
    rw [cr_empty ls lo 0 r (by omega), cr_empty ls lo mid r (by omega), cr_empty ls mid 0 r (by omega)]
  | succ n ih =>
    by_cases e : mid = n + 1
    · subst e; have := cr_empty ls (n + 1) (n + 1) r (Nat.le_refl _); omega
    · rw [cr_snoc ls lo n r (by omega) (by omega), cr_snoc ls mid n r (by omega) (by omega), ih (by omega) (by omega)]
      omega

theorem cr_le (ls : List (List UInt8)) (lo hi : Nat) (r : List UInt8) : cr ls lo hi r ≤ hi := by
  unfold cr
  have := List.count_le_length (a := r) (l := (ls.take hi).drop lo)
  simp at this
  omega

theorem cr_all (ls : List (List UInt8)) (r : List UInt8) : cr ls 0 ls.length r = ls.count r := by
  unfold cr; simp

/-- How many values of ls occur among its first i. -/
def cov (ls : List (List UInt8)) (i : Nat) : Nat := ls.countP fun x => decide (x ∈ ls.take i)

theorem cov_zero (ls : List (List UInt8)) : cov ls 0 = 0 := by
  unfold cov; simp

theorem cov_full (ls : List (List UInt8)) : cov ls ls.length = ls.length := by
  unfold cov
  rw [List.countP_eq_length]
  intro x hx; simpa using hx

theorem cov_le (ls : List (List UInt8)) (i : Nat) : cov ls i ≤ ls.length := List.countP_le_length

theorem countP_or (l : List (List UInt8)) (p q : List UInt8 → Bool) (h : ∀ x, p x = true → q x = false) : l.countP (fun x => p x || q x) = l.countP p + l.countP q := by
  induction l with
  | nil => rfl
  | cons x t ih =>
    simp only [List.countP_cons, ih]
    cases hp : p x with
    | true => simp [h x hp]; omega
    | false => simp; omega

theorem take_mem (ls : List (List UInt8)) (i : Nat) (hi : i < ls.length) (x : List UInt8) : x ∈ ls.take (i + 1) ↔ x ∈ ls.take i ∨ x = ls[i] := by
  rw [List.take_succ_eq_append_getElem hi, List.mem_append, List.mem_singleton]

theorem cov_new (ls : List (List UInt8)) (i : Nat) (hi : i < ls.length) (h : ls[i] ∉ ls.take i) : cov ls (i + 1) = cov ls i + ls.count ls[i] := by
  unfold cov
  have e : (fun x => decide (x ∈ ls.take (i + 1))) = fun x => (decide (x ∈ ls.take i) || (x == ls[i])) := by
    funext x
    rw [Bool.eq_iff_iff]
    simp [take_mem ls i hi]
  rw [e, countP_or]
  · rfl
  · intro x hx
    simp at hx
    simp
    intro e
    subst e
    exact h hx

theorem cov_old (ls : List (List UInt8)) (i : Nat) (hi : i < ls.length) (h : ls[i] ∈ ls.take i) : cov ls (i + 1) = cov ls i := by
  unfold cov
  congr 1
  funext x
  rw [Bool.eq_iff_iff]
  simp only [decide_eq_true_eq, take_mem ls i hi]
  constructor
  · rintro (h' | rfl)
    · exact h'
    · exact h
  · exact Or.inl

theorem count_pos (ls : List (List UInt8)) (i : Nat) (hi : i < ls.length) : 1 ≤ ls.count ls[i] := List.count_pos_iff.2 (List.getElem_mem hi)

theorem mem_take_iff (ls : List (List UInt8)) (i : Nat) (hi : i ≤ ls.length) (x : List UInt8) : x ∈ ls.take i ↔ ∃ j, ∃ h : j < i, ls[j]'(by omega) = x := by
  rw [List.mem_take_iff_getElem]
  constructor
  · rintro ⟨j, h, e⟩; exact ⟨j, by omega, e⟩
  · rintro ⟨j, h, e⟩; exact ⟨j, by omega, e⟩

end Go.Proofs.Qxb6604018a.Pl
