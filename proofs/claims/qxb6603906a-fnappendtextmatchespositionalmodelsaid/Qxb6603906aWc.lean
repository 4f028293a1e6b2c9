import Derived.Test.Qxb6603906aWb
namespace Go.Proofs.Qxb6603906a
open Go.RowKit

theorem Own.carry {B C : Nat} {w w' : World} {v : Value} {H : List Int} (h : Own B w v H) (hb : Below C w w') (hC : w.heap.size ≤ C) : Own B w' v H := by
  refine ⟨h.1, ?_⟩
  rcases h.2 with h2 | ⟨g, cp, cur, h1, hb', hg, hr⟩
  · exact .inl h2
  · have := (Array.getElem?_eq_some_iff.1 hg).1
    exact .inr ⟨g, cp, cur, h1, hb', (hb.block g (by omega)).trans hg, hr⟩

theorem make_any (neg : Bool) (s : ByteArray) (ex : Int) (w : World) :
    Calls Try.prog 8 #[.bool neg, .string s, .int .i64 ex] w fun e w' => e = .returned (.agg #[.bool neg, .string s, .int .i64 ex]) ∧ Below w.heap.size w w' := by
  go_enter Try.func8, Try.ntmps8
  go_wp2
  exact bodyPost_ret (v := .agg #[.bool neg, .string s, .int .i64 ex]) (by simp [results, Try.results8, go_sem]) rfl ⟨rfl, (Below.refl _ _).alloc (Nat.le_refl _) _⟩

theorem len_i {a b : Int} (h : a = b) : Ending.returned (.int .i64 a) = .returned (.int .i64 b) := by rw [h]

set_option maxHeartbeats 1000000 in
theorem tlen_any (neg : Bool) (s : ByteArray) (ex : Int) (hs : s.size ≤ 524288) (he1 : ex ≤ 65536) (he2 : -65536 ≤ ex) (w : World) :
    Calls Try.prog 11 #[.agg #[.bool neg, .string s, .int .i64 ex]] w fun e w' => e = .returned (.int .i64 (Pl.text neg (bys s) ex).length) ∧ Below w.heap.size w w' := by
  obtain ⟨m, hm⟩ : ∃ m, (Pl.text neg (bys s) ex).length = m := ⟨_, rfl⟩
  rw [hm]
  have HM : Hid ((Pl.text neg (bys s) ex).length = m) := hm
  clear hm
  by_cases hse : s.size = 0
  · have hz : ((s.size : Int) == 0) = true := by rw [hse]; rfl
    have HT : Hid (m = 1) := by show m = 1; rw [← HM.out]; unfold Pl.text; rw [if_pos (bys_nil hse)]; rfl
    clear hse HM
    go_enter Try.func11, Try.ntmps11
    go_wp2
    go_ret
    exact ⟨by rw [HT.out]; rfl, (Below.refl _ _).alloc (Nat.le_refl _) _⟩
  · have hz : ((s.size : Int) == 0) = false := beq_false_of_ne (by omega)
    have HT : Hid ((m : Int) = (if neg then 1 else 0) + (if ex ≤ 0 then (s.size : Int) + (2 - ex) else if ex < s.size then (s.size : Int) + 1 else ex)) := by
      show (m : Int) = _
      rw [← HM.out]; unfold Pl.text; rw [if_neg (bys_ne hse), List.length_append]
      have := Pl.body_len (bys s) ex (bys_ne hse)
      rw [bys_len] at this
      rw [Int.natCast_add, this]
      cases neg <;> rfl
    clear hse HM
    by_cases h0 : ex ≤ 0
    · cases neg
      all_goals
        go_enter Try.func11, Try.ntmps11
        go_wp2
        go_ret
        exact ⟨len_i (by have h := HT.out; simp only [Bool.false_eq_true, if_true, if_false] at h; rw [if_pos (by omega)] at h; omega), (Below.refl _ _).alloc (Nat.le_refl _) _⟩
    · have h0' : 0 < ex := by omega
      by_cases h1 : ex < (s.size : Int)
      · cases neg
        all_goals
          go_enter Try.func11, Try.ntmps11
          go_wp2
          go_ret
          exact ⟨len_i (by have h := HT.out; simp only [Bool.false_eq_true, if_true, if_false] at h; rw [if_neg (by omega), if_pos (by omega)] at h; omega), (Below.refl _ _).alloc (Nat.le_refl _) _⟩
      · cases neg
        all_goals
          go_enter Try.func11, Try.ntmps11
          go_wp2
          go_ret
          exact ⟨len_i (by have h := HT.out; simp only [Bool.false_eq_true, if_true, if_false] at h; rw [if_neg (by omega), if_neg (by omega)] at h; omega), (Below.refl _ _).alloc (Nat.le_refl _) _⟩
end Go.Proofs.Qxb6603906a
