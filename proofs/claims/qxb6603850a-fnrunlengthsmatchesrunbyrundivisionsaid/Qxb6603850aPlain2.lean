import Derived.Test.Qxb6603850aPlain
namespace Go.Proofs.Qxb6603850a.Pl

theorem zr_bd (n : Nat) : ∀ s ∈ zr n, 0 ≤ s ∧ s < 65536 := by
  intro s hs
  have hm : n % 138 < 138 := Nat.mod_lt _ (by omega)
  unfold zr at hs
  split at hs
  · split at hs
    · have := List.eq_of_mem_replicate hs; omega
    · simp at hs
      rcases hs with h | h | h <;> omega
  · rcases List.mem_append.1 hs with h | h
    · have := List.eq_of_mem_replicate h; omega
    · split at h
      · simp at h; omega
      · split at h
        · simp at h; omega
        · cases h

theorem lr_bd (v : Int) (h0 : 0 ≤ v) (h1 : v < 65536) (m : Nat) : ∀ s ∈ lr v m, 0 ≤ s ∧ s < 65536 := by
  intro s hs
  have hm : m % 6 < 6 := Nat.mod_lt _ (by omega)
  unfold lr at hs
  rcases List.mem_append.1 hs with h | h
  · have := List.eq_of_mem_replicate h; omega
  · split at h
    · simp at h; omega
    · have := List.eq_of_mem_replicate h; omega

theorem run_bd (v : Int) (h0 : 0 ≤ v) (h1 : v < 65536) (n : Nat) : ∀ s ∈ run v n, 0 ≤ s ∧ s < 65536 := by
  intro s hs
  unfold run at hs
  split at hs
  · exact zr_bd n s hs
  · rcases List.mem_cons.1 hs with h | h
    · omega
    · exact lr_bd v h0 h1 _ s h

theorem encA_bd (l : List Int) : ∀ (v : Int) (n : Nat), 0 ≤ v → v < 65536 → (∀ x ∈ l, 0 ≤ x ∧ x < 65536) → ∀ s ∈ encA v n l, 0 ≤ s ∧ s < 65536 := by
  induction l with
  | nil => intro v n h0 h1 _ s hs; exact run_bd v h0 h1 n s hs
  | cons x t ih =>
    intro v n h0 h1 hl s hs
    have hx := hl x (by simp)
    have ht : ∀ y ∈ t, 0 ≤ y ∧ y < 65536 := fun y hy => hl y (by simp [hy])
    unfold encA at hs
    split at hs
    · exact ih v (n + 1) h0 h1 ht s hs
    · rcases List.mem_append.1 hs with h | h
      · exact run_bd v h0 h1 n s h
      · exact ih x 1 hx.1 hx.2 ht s h

theorem mem_bd {l : List Int} {B : Int} (h : ∀ j, 0 ≤ l.getD j 0 ∧ l.getD j 0 ≤ B) : ∀ x ∈ l, 0 ≤ x ∧ x ≤ B := by
  intro x hx
  obtain ⟨j, hj, rfl⟩ := List.getElem_of_mem hx
  have := h j
  simpa [List.getD, hj] using this

theorem getD_bd {l : List Int} (h : ∀ x ∈ l, 0 ≤ x ∧ x < 65536) (j : Nat) : 0 ≤ l.getD j 0 ∧ l.getD j 0 < 65536 := by
  by_cases hj : j < l.length
  · have := h l[j] (List.getElem_mem hj)
    simpa [List.getD, hj] using this
  · simp [List.getD, List.getElem?_eq_none (Nat.le_of_not_lt hj)]

theorem enc_bd (l : List Int) (h : ∀ j, 0 ≤ l.getD j 0 ∧ l.getD j 0 ≤ 255) : ∀ j, 0 ≤ (enc l).getD j 0 ∧ (enc l).getD j 0 < 65536 := by
  refine getD_bd ?_
  have hm := mem_bd h
  match l, hm with
  | [], _ => intro x hx; cases hx
  | v :: t, hm =>
    have hv := hm v (by simp)
    exact encA_bd t v 1 hv.1 (by omega) (fun x hx => by have := hm x (by simp [hx]); omega)

end Go.Proofs.Qxb6603850a.Pl
