namespace Go.Proofs.Qxb6603850a.Pl

/-- n zeros, by division by 138. -/
def zr (n : Nat) : List Int :=
  if n % 138 = 1 ∨ n % 138 = 2 then
    if n / 138 = 0 then List.replicate (n % 138) 0
    else List.replicate (n / 138 - 1) 4082 ++ [18 + 32 * (124 + ((n % 138 : Nat) : Int)), 17]
  else List.replicate (n / 138) 4082 ++
    (if 11 ≤ n % 138 then [18 + 32 * (((n % 138 : Nat) : Int) - 11)] else if 3 ≤ n % 138 then [17 + 32 * (((n % 138 : Nat) : Int) - 3)] else [])

/-- The zeros that one step of the program's loop takes. -/
def zs (n : Nat) : Nat := if n ≤ 138 then n else if n - 138 < 3 then n - 3 else 138

theorem zs_bd (n : Nat) (h : 11 ≤ n) : 11 ≤ zs n ∧ zs n ≤ 138 ∧ zs n ≤ n := by
  unfold zs; split
  · omega
  · split <;> omega

theorem zr_lt3 (n : Nat) (h : n < 3) : zr n = List.replicate n 0 := by
  match n, h with
  | 0, _ => rfl
  | 1, _ => rfl
  | 2, _ => rfl

theorem zr_mid (n : Nat) (h : 3 ≤ n) (h' : n < 11) : zr n = [17 + 32 * ((n : Int) - 3)] := by
  have e : n % 138 = n := Nat.mod_eq_of_lt (by omega)
  have d : n / 138 = 0 := Nat.div_eq_of_lt (by omega)
  unfold zr
  rw [e, d, if_neg (by omega), if_neg (by omega), if_pos h]
  rfl

theorem zr_full (n : Nat) (h : 138 ≤ n) (h' : n - 138 ≠ 1) (h'' : n - 138 ≠ 2) : zr n = 4082 :: zr (n - 138) := by
  have e : n % 138 = (n - 138) % 138 := by omega
  have d : n / 138 = (n - 138) / 138 + 1 := by omega
  unfold zr
  rw [e, d]
  generalize hr : (n - 138) % 138 = r
  generalize hq : (n - 138) / 138 = q
  by_cases hc : r = 1 ∨ r = 2
  · rw [if_pos hc, if_pos hc, if_neg (by omega), if_neg (by omega)]
    have : q + 1 - 1 = (q - 1) + 1 := by omega
    rw [this, List.replicate_succ]
    rfl
  · rw [if_neg hc, if_neg hc, List.replicate_succ]
    rfl

theorem zr_step (n : Nat) (h : 11 ≤ n) : zr n = (18 + 32 * ((zs n : Int) - 11)) :: zr (n - zs n) := by
  unfold zs
  by_cases h1 : n ≤ 138
  · rw [if_pos h1, Nat.sub_self]
    by_cases h2 : n = 138
    · subst h2; rfl
    · have e : n % 138 = n := Nat.mod_eq_of_lt (by omega)
      have d : n / 138 = 0 := Nat.div_eq_of_lt (by omega)
      have z0 : zr 0 = [] := rfl
      rw [z0]
      unfold zr
      rw [e, d, if_neg (by omega), if_pos h]
      rfl
  · rw [if_neg h1]
    by_cases h2 : n - 138 < 3
    · rw [if_pos h2]
      have hn : n = 139 ∨ n = 140 := by omega
      rcases hn with rfl | rfl <;> rfl
    · rw [if_neg h2, zr_full n (by omega) (by omega) (by omega)]
      rfl

theorem zr_len (n : Nat) : (zr n).length ≤ n := by
  unfold zr
  split
  · split
    · simp; omega
    · simp; omega
  · simp only [List.length_append, List.length_replicate]
    split
    · simp; omega
    · split
      · simp; omega
      · simp; omega

/-- m more copies of v, by division by 6. -/
def lr (v : Int) (m : Nat) : List Int :=
  List.replicate (m / 6) 112 ++ (if 3 ≤ m % 6 then [16 + 32 * (((m % 6 : Nat) : Int) - 3)] else List.replicate (m % 6) v)

theorem lr_lt3 (v : Int) (m : Nat) (h : m < 3) : lr v m = List.replicate m v := by
  match m, h with
  | 0, _ => rfl
  | 1, _ => rfl
  | 2, _ => rfl

theorem lr_step (v : Int) (m : Nat) (h : 3 ≤ m) : lr v m = (16 + 32 * (((min m 6 : Nat) : Int) - 3)) :: lr v (m - min m 6) := by
  by_cases h6 : m < 6
  · have e : min m 6 = m := by omega
    have e6 : m % 6 = m := Nat.mod_eq_of_lt h6
    have d : m / 6 = 0 := Nat.div_eq_of_lt h6
    rw [e, Nat.sub_self]
    have z0 : lr v 0 = [] := rfl
    rw [z0]
    unfold lr
    rw [e6, d, if_pos h]
    rfl
  · have e : min m 6 = 6 := by omega
    have e6 : m % 6 = (m - 6) % 6 := by omega
    have d : m / 6 = (m - 6) / 6 + 1 := by omega
    rw [e]
    unfold lr
    rw [e6, d, List.replicate_succ]
    rfl

theorem lr_len (v : Int) (m : Nat) : (lr v m).length ≤ m := by
  unfold lr
  simp only [List.length_append, List.length_replicate]
  split
  · simp; omega
  · simp; omega

/-- One run of n copies of v. -/
def run (v : Int) (n : Nat) : List Int := if v = 0 then zr n else v :: lr v (n - 1)

theorem run_len (v : Int) (n : Nat) (h : 1 ≤ n) : (run v n).length ≤ n := by
  unfold run
  split
  · exact zr_len n
  · have := lr_len v (n - 1)
    simp; omega

def encA (v : Int) (n : Nat) : List Int → List Int
  | [] => run v n
  | x :: t => if x = v then encA v (n + 1) t else run v n ++ encA x 1 t

def enc : List Int → List Int
  | [] => []
  | v :: t => encA v 1 t

theorem encA_len (l : List Int) : ∀ (v : Int) (n : Nat), 1 ≤ n → (encA v n l).length ≤ n + l.length := by
  induction l with
  | nil => intro v n h; simpa [encA] using run_len v n h
  | cons x t ih =>
    intro v n h
    unfold encA
    split
    · have := ih v (n + 1) (by omega); simp; omega
    · have := ih x 1 (by omega); have := run_len v n h; simp; omega

theorem enc_len (l : List Int) : (enc l).length ≤ l.length := by
  match l with
  | [] => simp [enc]
  | v :: t => have := encA_len t v 1 (by omega); simp [enc]; omega

/-- What one symbol says: how many copies, of what. -/
def cv (out : List Int) (s : Int) : Option (Nat × Int) :=
  if s % 32 < 16 then (if s / 32 = 0 then some (1, s % 32) else none)
  else if s % 32 = 16 then (if s / 32 ≤ 3 ∧ out ≠ [] then some (3 + (s / 32).toNat, out.getLastD 0) else none)
  else if s % 32 = 17 then (if s / 32 ≤ 7 then some (3 + (s / 32).toNat, 0) else none)
  else if s % 32 = 18 then (if s / 32 ≤ 127 then some (11 + (s / 32).toNat, 0) else none)
  else none

def dec (lim : Nat) : List Int → List Int → Option (List Int)
  | [], out => some out
  | s :: h, out => (cv out s).bind fun p => if out.length + p.1 ≤ lim then dec lim h (out ++ List.replicate p.1 p.2) else none

theorem dec_append (lim : Nat) (a b : List Int) : ∀ out, dec lim (a ++ b) out = (dec lim a out).bind (dec lim b) := by
  induction a with
  | nil => intro out; rfl
  | cons s a ih =>
    intro out
    simp only [List.cons_append, dec]
    cases cv out s with
    | none => rfl
    | some p =>
      simp only [Option.bind_some]
      split
      · exact ih _
      · rfl

theorem dec_cons {lim : Nat} {s : Int} {h out : List Int} {c : Nat} {v : Int} (e : cv out s = some (c, v)) (hl : out.length + c ≤ lim) : dec lim (s :: h) out = dec lim h (out ++ List.replicate c v) := by
  simp only [dec, e, Option.bind_some]
  rw [if_pos hl]

theorem dec_lits (lim : Nat) (v : Int) (h0 : 0 ≤ v) (h15 : v ≤ 15) (m : Nat) : ∀ out : List Int, out.length + m ≤ lim → dec lim (List.replicate m v) out = some (out ++ List.replicate m v) := by
  induction m with
  | zero => intro out _; simp [dec]
  | succ m ih =>
    intro out hl
    have e : cv out v = some (1, v) := by
      unfold cv
      rw [if_pos (by omega), if_pos (by omega)]
      congr 2; omega
    rw [List.replicate_succ, dec_cons e (by omega), ih _ (by simp; omega)]
    simp [List.replicate_succ]

theorem dec_zr (lim : Nat) (n : Nat) : ∀ out : List Int, out.length + n ≤ lim → dec lim (zr n) out = some (out ++ List.replicate n 0) := by
  induction n using Nat.strongRecOn with
  | _ n ih =>
    intro out hl
    by_cases h1 : n < 3
    · rw [zr_lt3 n h1]; exact dec_lits lim 0 (by omega) (by omega) n out hl
    · by_cases h2 : n < 11
      · rw [zr_mid n (by omega) h2]
        have e : cv out (17 + 32 * ((n : Int) - 3)) = some (n, 0) := by
          unfold cv
          rw [if_neg (by omega), if_neg (by omega), if_pos (by omega), if_pos (by omega)]
          congr 2; omega
        rw [dec_cons e hl]; rfl
      · have hb := zs_bd n (by omega)
        rw [zr_step n (by omega)]
        generalize zs n = r at hb ⊢
        have e : cv out (18 + 32 * ((r : Int) - 11)) = some (r, 0) := by
          unfold cv
          rw [if_neg (by omega), if_neg (by omega), if_neg (by omega), if_pos (by omega), if_pos (by omega)]
          congr 2; omega
        rw [dec_cons e (by omega), ih (n - r) (by omega) _ (by simp; omega), List.append_assoc, List.replicate_append_replicate]
        congr 3; omega

theorem getLastD_snoc (out : List Int) (c : Nat) (v d : Int) (hv : out.getLastD d = v) : (out ++ List.replicate c v).getLastD d = v := by
  cases c with
  | zero => simpa using hv
  | succ c =>
    rw [List.replicate_succ', ← List.append_assoc, List.getLastD_eq_getLast?, List.getLast?_append]
    simp

theorem dec_lr (lim : Nat) (v : Int) (h0 : 0 ≤ v) (h15 : v ≤ 15) (n : Nat) : ∀ out : List Int, out ≠ [] → out.getLastD 0 = v → out.length + n ≤ lim → dec lim (lr v n) out = some (out ++ List.replicate n v) := by
  induction n using Nat.strongRecOn with
  | _ n ih =>
    intro out hne hv hl
    by_cases h1 : n < 3
    · rw [lr_lt3 v n h1]; exact dec_lits lim v h0 h15 n out hl
    · rw [lr_step v n (by omega)]
      obtain ⟨r, hr⟩ : ∃ r, r = min n 6 := ⟨_, rfl⟩
      rw [← hr]
      have hb : 3 ≤ r ∧ r ≤ 6 ∧ r ≤ n := by omega
      have e : cv out (16 + 32 * ((r : Int) - 3)) = some (r, v) := by
        unfold cv
        rw [if_neg (by omega), if_pos (by omega), if_pos ⟨by omega, hne⟩, hv]
        congr 2; omega
      rw [dec_cons e (by omega), ih (n - r) (by omega) _ (by simp [hne]) (getLastD_snoc out r v 0 hv) (by simp; omega), List.append_assoc, List.replicate_append_replicate]
      congr 3; omega

theorem dec_run (lim : Nat) (v : Int) (h0 : 0 ≤ v) (h15 : v ≤ 15) (n : Nat) (hn : 1 ≤ n) (out : List Int) (hl : out.length + n ≤ lim) : dec lim (run v n) out = some (out ++ List.replicate n v) := by
  unfold run
  split
  · rename_i hv; subst hv; exact dec_zr lim n out hl
  · have e : cv out v = some (1, v) := by
      unfold cv
      rw [if_pos (by omega), if_pos (by omega)]
      congr 2; omega
    rw [dec_cons e (by omega), dec_lr lim v h0 h15 (n - 1) _ (by simp) (by simp [List.getLastD_eq_getLast?]) (by simp; omega), List.append_assoc, List.replicate_append_replicate]
    congr 3; omega

theorem dec_encA (lim : Nat) (l : List Int) : ∀ (v : Int) (n : Nat) (out : List Int), 0 ≤ v → v ≤ 15 → (∀ x ∈ l, 0 ≤ x ∧ x ≤ 15) → 1 ≤ n → out.length + n + l.length ≤ lim →
    dec lim (encA v n l) out = some (out ++ List.replicate n v ++ l) := by
  induction l with
  | nil => intro v n out h0 h15 _ hn hl; simpa [encA] using dec_run lim v h0 h15 n hn out (by simpa using hl)
  | cons x t ih =>
    intro v n out h0 h15 hx hn hl
    have hx0 := hx x (by simp)
    have ht : ∀ y ∈ t, 0 ≤ y ∧ y ≤ 15 := fun y hy => hx y (by simp [hy])
    simp at hl
    unfold encA
    split
    · rename_i e; subst e
      rw [ih x (n + 1) out h0 h15 ht (by omega) (by omega), List.replicate_succ']
      simp
    · rw [dec_append, dec_run lim v h0 h15 n hn out (by omega)]
      simp only [Option.bind_some]
      rw [ih x 1 _ hx0.1 hx0.2 ht (by omega) (by simp; omega)]
      simp

theorem dec_enc (l : List Int) (h : ∀ x ∈ l, 0 ≤ x ∧ x ≤ 15) : dec l.length (enc l) [] = some l := by
  match l, h with
  | [], _ => rfl
  | v :: t, h =>
    have hv := h v (by simp)
    have := dec_encA (v :: t).length t v 1 [] hv.1 hv.2 (fun x hx => h x (by simp [hx])) (by omega) (by simp; omega)
    simpa [enc] using this

theorem drop_at (xs : List Int) (k : Nat) (h : k < xs.length) : xs.drop k = xs.getD k 0 :: xs.drop (k + 1) := by
  rw [List.drop_eq_getElem_cons h]; simp [List.getD, h]

theorem enc_at (xs : List Int) (k : Nat) (h : k < xs.length) : enc (xs.drop k) = encA (xs.getD k 0) 1 (xs.drop (k + 1)) := by
  rw [drop_at xs k h]; rfl

theorem encA_more (xs : List Int) (x : Int) (r k : Nat) (h : k < xs.length) (e : xs.getD k 0 = x) : encA x r (xs.drop k) = encA x (r + 1) (xs.drop (k + 1)) := by
  rw [drop_at xs k h, e]; simp [encA]

theorem encA_stop (xs : List Int) (x : Int) (r k : Nat) (h : k < xs.length → xs.getD k 0 ≠ x) : encA x r (xs.drop k) = run x r ++ enc (xs.drop k) := by
  by_cases hk : k < xs.length
  · rw [drop_at xs k hk]
    simp only [encA, enc]
    rw [if_neg (h hk)]
  · rw [List.drop_eq_nil_of_le (by omega)]; simp [encA, enc]

theorem len_of {H R E : List Int} (h : H ++ R = E) : H.length ≤ E.length := by rw [← h]; simp

theorem dec_uncons {lim : Nat} {s : Int} {h out r : List Int} (e : dec lim (s :: h) out = some r) : ∃ c v, cv out s = some (c, v) ∧ out.length + c ≤ lim ∧ dec lim h (out ++ List.replicate c v) = some r := by
  simp only [dec] at e
  cases hc : cv out s with
  | none => rw [hc] at e; cases e
  | some p =>
    rw [hc, Option.bind_some] at e
    split at e
    · exact ⟨p.1, p.2, rfl, by assumption, e⟩
    · cases e

theorem cv_cases {out : List Int} {s : Int} {c : Nat} {v : Int} (h0 : 0 ≤ s) (h : cv out s = some (c, v)) :
    (s % 32 < 16 ∧ s / 32 = 0 ∧ c = 1 ∧ v = s % 32) ∨ (s % 32 = 16 ∧ s / 32 ≤ 3 ∧ out ≠ [] ∧ (c : Int) = 3 + s / 32 ∧ v = out.getLastD 0) ∨
    (s % 32 = 17 ∧ s / 32 ≤ 7 ∧ (c : Int) = 3 + s / 32 ∧ v = 0) ∨ (s % 32 = 18 ∧ s / 32 ≤ 127 ∧ (c : Int) = 11 + s / 32 ∧ v = 0) := by
  unfold cv at h
  split at h
  · split at h
    · simp at h; omega
    · cases h
  · split at h
    · split at h
      · rename_i h1 h2 h3
        simp at h
        exact .inr (.inl ⟨h2, h3.1, h3.2, by omega, by rw [List.getLastD_eq_getLast?]; exact h.2.symm⟩)
      · cases h
    · split at h
      · split at h
        · simp at h; omega
        · cases h
      · split at h
        · split at h
          · simp at h; omega
          · cases h
        · cases h

theorem getLastD_at (out : List Int) (h : out ≠ []) : out.getLastD 0 = out.getD (out.length - 1) 0 := by
  have : 0 < out.length := List.length_pos_iff.2 h
  rw [List.getLastD_eq_getLast?, List.getLast?_eq_getElem?]; simp [List.getD]

end Go.Proofs.Qxb6603850a.Pl
