import Derived.Test.Qxb6603906aWc
namespace Go.Proofs.Qxb6603906a
open Go.RowKit

theorem bytes10_yes (neg : Bool) (s : ByteArray) (ex : Int) (a : Option Addr) (len cap : Nat) (w : World) (h1 : s.size ≤ 524288) (h2 : len ≤ 524288) : Calls Try.prog 10 #[.bool neg, .string s, .int .i64 ex, .slice a len cap] w fun e w' => e = .returned (.bool true) ∧ w = w' := by
  go_enter Try.func10, Try.ntmps10
  go_wp2
  go_ret
  exact ⟨rfl, rfl⟩

/-- Whatever it answers, it answers a bool. -/
theorem bytes10_any (neg : Bool) (s : ByteArray) (ex : Int) (a : Option Addr) (len cap : Nat) (w : World) (hs : s.size ≤ 9223372036854775807) (hl : len ≤ 9223372036854775807) : Calls Try.prog 10 #[.bool neg, .string s, .int .i64 ex, .slice a len cap] w fun e w' => ∃ b, e = .returned (.bool b) ∧ w = w' := by
  go_enter Try.func10, Try.ntmps10
  go_wp2
  all_goals (go_ret; exact ⟨_, rfl, rfl⟩)

set_option maxHeartbeats 2000000 in
set_option maxRecDepth 1000000 in
theorem law4 (neg : Bool) (s : ByteArray) (hs : s.size ≤ 9223372036854775807) (ex : Int) (hx1 : ex ≤ 9223372036854775807) (hx2 : -9223372036854775808 ≤ ex) (a0 : Option Addr) (len cap : Nat) (xs : List Int) (w : World) (h0 : a0 = none → len = 0 ∧ cap = 0) (hl : xs.length = len) (hseg : Seg w a0 xs) (hml : len ≤ 9223372036854775807) :
    Calls Try.prog 4 #[.bool neg, .string s, .int .i64 ex, .slice a0 len cap] w fun e w' => e = .returned (.bool true) ∧ Below w.heap.size w w' := by
  by_cases hin : s.size ≤ 524288 ∧ len ≤ 524288 ∧ ex ≤ 65536 ∧ -65536 ≤ ex
  · obtain ⟨hi1, hi2, hi3, hi4⟩ := hin
    have HL : Hid (xs.length = len) := hl
    have HS : Hid (Seg w a0 xs) := hseg
    have H0 : Hid (a0 = none → len = 0 ∧ cap = 0) := h0
    clear hl hseg h0
    go_enter Try.func4, Try.ntmps4
    go_wp2_with (go_at_call 10; refine (bytes10_yes neg s ex a0 len cap _ hi1 hi2).mono ?_; rintro e w' ⟨rfl, rfl⟩)
    refine (clone_any a0 len cap xs _ H0.out HL.out (by omega) HS.out).mono ?_
    rintro e w1 ⟨a1, c1, rfl, hb1, ho1, _⟩
    go_wp2_with fail
    refine (make_any neg s ex w1).mono ?_
    rintro e w2 ⟨rfl, hb2⟩
    go_wp2_with fail
    have hlt : ∀ k, (Value.slice a1 len c1).ownBlock = some k → w.heap.size ≤ k ∧ k < w1.heap.size := fun k hk => World.ownsRow.lt ho1 k hk
    have hsz1 := hb1.size
    have hsz2 := hb2.size
    have ho2 := (ho1.carry hb2 (Nat.le_refl _))
    have ho3 : Own w.heap.size (w2.alloc (.cells #[.bool neg, .string s, .int .i64 ex] 27)) (.slice a1 len c1) xs := World.ownsRow.alloc ho2 _
    have hbox : (w2.alloc (.cells #[.bool neg, .string s, .int .i64 ex] 27)).heap[w2.heap.size]? = some (.cells #[.bool neg, .string s, .int .i64 ex] 27 (0, 0)) := heap_alloc_new w2 _
    have hbel3 : Below w.heap.size w (w2.alloc (.cells #[.bool neg, .string s, .int .i64 ex] 27)) := (hb1.trans (hb2.mono hsz1)).alloc (by omega) _
    have hsz3 : (w2.alloc (.cells #[.bool neg, .string s, .int .i64 ex] 27)).heap.size = w2.heap.size + 1 := by simp
    clear ho1 ho2 hb1 hb2
    generalize hW : w2.alloc (.cells #[.bool neg, .string s, .int .i64 ex] 27) = W3 at ho3 hbox hbel3 hsz3 ⊢
    clear hW
    refine (text_any w.heap.size neg s ex hi1 hi3 hi4 _ xs (by rw [HL.out]; omega) W3 hbel3.size ho3).mono ?_
    rintro e w4 ⟨v4, rfl, L, HL4, ho4, hg4⟩
    have hbox4 : w4.heap[w2.heap.size]? = some (.cells #[.bool neg, .string s, .int .i64 ex] 27 (0, 0)) := by
      rw [hg4.block _ (by omega) (fun e => by have := hlt _ e.symm; omega)]; exact hbox
    have hbel4 : Below w.heap.size w w4 := hbel3.grown hg4 hbel3.size (fun k hk => (hlt k hk).1)
    have c0 : w4.cell? ⟨w2.heap.size, 0, none⟩ = some (.bool neg) := by rw [cell_of_row _ _ _ _ _ _ hbox4]; rfl
    have c1' : w4.cell? ⟨w2.heap.size, 1, none⟩ = some (.string s) := by rw [cell_of_row _ _ _ _ _ _ hbox4]; rfl
    have c2 : w4.cell? ⟨w2.heap.size, 2, none⟩ = some (.int .i64 ex) := by rw [cell_of_row _ _ _ _ _ _ hbox4]; rfl
    obtain ⟨ao4, cp4, rfl⟩ := ho4.shape
    have hLl : L.length = len + (Pl.text neg (bys s) ex).length := by rw [HL4.out, List.length_append, HL.out]
    have htb := Pl.text_bd neg (bys s) ex (by rw [bys_len]; exact hi1) hi3 hi4
    clear ho3 hbox hbel3 hsz3 hg4 hlt hsz1 hsz2 hbox4 ho4
    obtain ⟨M, hM⟩ : ∃ M, L.length = M := ⟨_, rfl⟩
    rw [hM] at hLl ⊢
    clear hM
    go_wp2_with fail
    refine (tlen_any neg s ex hi1 hi3 hi4 _).mono ?_
    rintro e w5 ⟨rfl, hb5⟩
    have hbel5 := hbel4.trans (hb5.mono hbel4.size)
    obtain ⟨tl, htl⟩ : ∃ tl, (Pl.text neg (bys s) ex).length = tl := ⟨_, rfl⟩
    rw [htl] at hLl htb ⊢
    have heq : ((M : Int) == (len : Int) + (tl : Int)) = true := by rw [hLl]; simp
    clear hb5 hbel4 htl hLl
    go_wp2
    go_ret
    exact ⟨rfl, hbel5⟩
  · clear hseg
    by_cases h1 : s.size ≤ 524288
    · by_cases h2 : len ≤ 524288
      · have hd : (decide ((65536 : Int) < ex) = true) ∨ (decide ((65536 : Int) < ex) = false ∧ decide (ex < -65536) = true) := by
          by_cases h : (65536 : Int) < ex
          · exact .inl (decide_eq_true h)
          · exact .inr ⟨decide_eq_false h, decide_eq_true (by omega)⟩
        clear hin
        rcases hd with hd | ⟨hd, hd2⟩
        all_goals
          go_enter Try.func4, Try.ntmps4
          go_wp2_with (go_at_call 10; refine (bytes10_yes neg s ex a0 len cap _ h1 h2).mono ?_; rintro e w' ⟨rfl, rfl⟩)
          go_ret
          exact ⟨rfl, Below.refl _ _⟩
      · have hz : (524288 : Int) < (len : Int) := by omega
        clear hin
        go_enter Try.func4, Try.ntmps4
        go_wp2_with fail
        refine (bytes10_any neg s ex a0 len cap _ hs hml).mono ?_
        rintro e w' ⟨b, rfl, rfl⟩
        cases b
        all_goals
          go_wp2
          go_ret
          exact ⟨rfl, Below.refl _ _⟩
    · have hz : (524288 : Int) < (s.size : Int) := by omega
      clear hin
      go_enter Try.func4, Try.ntmps4
      go_wp2_with fail
      refine (bytes10_any neg s ex a0 len cap _ hs hml).mono ?_
      rintro e w' ⟨b, rfl, rfl⟩
      cases b
      all_goals
        go_wp2
        go_ret
        exact ⟨rfl, Below.refl _ _⟩
end Go.Proofs.Qxb6603906a
