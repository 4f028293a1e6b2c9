import Derived.Test.Qxb6603973aDb
namespace Go.Proofs.Qxb6603973a
open Go.RowKit

theorem bytes10_yes (neg : Bool) (a b : ByteArray) (w : World) (h1 : a.size ≤ 65536) (h2 : b.size ≤ 65536) : Calls Try.prog 10 #[.bool neg, .string a, .string b] w fun e w' => e = .returned (.bool true) ∧ w = w' := by
  go_enter Try.func10, Try.ntmps10
  go_wp2
  go_ret
  exact ⟨rfl, rfl⟩

theorem bytes10_any (neg : Bool) (a b : ByteArray) (w : World) (h1 : a.size ≤ 9223372036854775807) (h2 : b.size ≤ 9223372036854775807) : Calls Try.prog 10 #[.bool neg, .string a, .string b] w fun e w' => ∃ r, e = .returned (.bool r) ∧ w = w' := by
  go_enter Try.func10, Try.ntmps10
  go_wp2
  all_goals (go_ret; exact ⟨_, rfl, rfl⟩)

theorem zz_any (neg : Bool) (a b : ByteArray) (ha : a.size ≤ 65536) (hb : b.size ≤ 65536) (w : World) :
    Calls Try.prog 12 #[.bool neg, .string a, .string b] w fun e w' => ∃ S, e = .returned (.string S) ∧ Hid (S = full neg a b) ∧ Grown w w' := by
  go_enter Try.func12, Try.ntmps12
  go_wp2_with fail
  refine (str_any neg a b ha hb _).mono ?_
  rintro e w2 ⟨S, rfl, HS, hg⟩
  go_wp2
  go_ret
  exact ⟨S, rfl, HS, hg⟩

set_option maxHeartbeats 4000000 in
set_option maxRecDepth 1000000 in
theorem law5 (neg : Bool) (a b : ByteArray) (h1 : a.size ≤ 9223372036854775807) (h2 : b.size ≤ 9223372036854775807) (w : World) :
    Calls Try.prog 5 #[.bool neg, .string a, .string b] w fun e w' => e = .returned (.bool true) ∧ Grown w w' := by
  by_cases ha : a.size ≤ 65536
  · by_cases hb : b.size ≤ 65536
    · by_cases da : Dig a
      · by_cases db : Dig b
        · have DA : Hid (Dig a) := da
          have DB : Hid (Dig b) := db
          clear da db
          go_enter Try.func5, Try.ntmps5
          go_wp2_with fail
          refine (bytes10_yes neg a b _ ha hb).mono ?_
          rintro e w' ⟨rfl, rfl⟩
          go_wp2_with fail
          refine (dig_yes a (by omega) DA.out _).mono ?_
          rintro e w' ⟨rfl, rfl⟩
          go_wp2_with fail
          refine (dig_yes b (by omega) DB.out _).mono ?_
          rintro e w' ⟨rfl, rfl⟩
          go_wp2_with fail
          refine (zz_any neg a b ha hb _).mono ?_
          rintro e w2 ⟨S, rfl, HS, hg⟩
          obtain ⟨T, hT⟩ : ∃ T, tl a b = T := ⟨_, rfl⟩
          have HT : Hid (tl a b = T) := hT
          have hTs : (T.size : Int) ≤ 131073 := by
            rw [← hT]
            by_cases h : b.size = 0
            · unfold tl; rw [if_pos h]; omega
            · rw [tl_size a b h]; omega
          have HSP : Hid (neg = true → S.extract 1 S.size = T ∧ ∃ h : 0 < S.size, S[0]'h = 45) := by
            intro h
            rw [HS.out, h, ← HT.out]
            exact full_pos a b
          have HSN : Hid (neg = false → S = T) := by
            intro h
            rw [HS.out, h, ← HT.out]
            exact full_neg a b
          have HH : Hid (∀ h : 0 < T.size, ((T[0]'h).toNat : Int) ≠ 45) := by
            intro h
            have := tl_head a b DA.out (by rw [HT.out]; exact h)
            simp only [HT.out] at this
            exact this
          clear hT HS
          go_upto_region 10 with fail
          go_cut [8] (fun s8 wx => w2 = wx ∧ s8 = .bool neg)
          case first =>
            cases neg with
            | true =>
              obtain ⟨h0, h45⟩ := (HSP.out rfl).2
              have hz : (0 : Int) < (S.size : Int) := by omega
              have hb45 : (((S[0]'h0).toNat : Int) == 45) = true := by rw [h45]; rfl
              clear HSP HSN h45
              go_wp2
              go_meet
              exact ⟨rfl, rfl⟩
            | false =>
              obtain rfl := HSN.out rfl
              by_cases h0 : 0 < S.size
              · have hz : (0 : Int) < (S.size : Int) := by omega
                have hb45 : (((S[0]'h0).toNat : Int) == 45) = false := beq_false_of_ne (HH.out h0)
                clear HSP HSN
                go_wp2
                go_meet
                exact ⟨rfl, rfl⟩
              · have hz : decide ((0 : Int) < (S.size : Int)) = false := decide_eq_false (by omega)
                clear HSP HSN
                go_wp2
                go_meet
                exact ⟨rfl, rfl⟩
          case rest =>
            obtain ⟨rfl, rfl⟩ := hcut
            go_upto_if 44 with fail
            go_cut [7, 44] (fun s7 s44 wx => w2 = wx ∧ s7 = .string T)
            case first =>
              cases neg with
              | true =>
                obtain ⟨hex, h0, h45⟩ := HSP.out rfl
                have hz : (0 : Int) < (S.size : Int) := by omega
                have hz1 : (1 : Int) ≤ (S.size : Int) := by omega
                have HEX : Hid (S.extract 1 S.size = T) := hex
                clear HSP HSN h45 hex
                go_wp2
                go_meet
                exact ⟨rfl, by rw [HEX.out]⟩
              | false =>
                obtain rfl := HSN.out rfl
                clear HSP HSN
                go_wp2
                go_meet
                exact ⟨rfl, rfl⟩
            case rest =>
              obtain ⟨rfl, rfl⟩ := hcut
              clear HSP HSN HH
              by_cases hb0 : b.size = 0
              · have e : T = a := by rw [← HT.out]; unfold tl; rw [if_pos hb0]
                subst e
                have hbe := emp_yes hb0
                have HTD : Hid (Dig T) := DA
                clear hb0
                go_wp2_with fail
                go_loopg [9, 10] T.size (fun g s9 s10 wx => w2 = wx ∧ ∃ k : Nat, k ≤ T.size ∧ g = T.size - k ∧ s10 = .int .i64 k ∧ s9 = .int .i64 (-1))
                case atStart => exact ⟨rfl, 0, Nat.zero_le _, rfl, rfl, rfl⟩
                case round =>
                  obtain ⟨rfl, k, hk, rfl, rfl, rfl⟩ := hrel
                  by_cases hkn : k < T.size
                  · have hkz : (k : Int) < (T.size : Int) := by omega
                    have hne : (((T[k]'hkn).toNat : Int) == 46) = false := beq_false_of_ne (by have := HTD.out k hkn; omega)
                    go_wp2
                    go_roundg (T.size - (k + 1))
                    case measure => omega
                    case rel => exact ⟨rfl, k + 1, by omega, rfl, by go_num, rfl⟩
                  · have hkz : decide ((k : Int) < (T.size : Int)) = false := decide_eq_false (by omega)
                    go_wp2
                    go_ret
                    exact ⟨rfl, hg⟩
              · have hsz : T.size = a.size + 1 + b.size := by rw [← HT.out]; exact tl_size a b hb0
                have hP : a.size < T.size := by omega
                have hP1 : (a.size : Int) + 1 < (T.size : Int) := by omega
                have hP2 : (a.size : Int) < (T.size : Int) := by omega
                have HLO : Hid (∀ k (h : k < T.size) (hk : k < a.size), (((T[k]'h).toNat : Int) == 46) = false) := by
                  intro k h hk
                  have e := tl_low a b k (by rw [HT.out]; exact h) hk
                  simp only [HT.out] at e
                  rw [e]
                  exact beq_false_of_ne (by have := DA.out k hk; omega)
                have HDOT : Hid ((((T[a.size]'hP).toNat : Int) == 46) = true) := by
                  have e := tl_dot a b hb0 (by rw [HT.out]; exact hP)
                  simp only [HT.out] at e
                  show (((T[a.size]'hP).toNat : Int) == 46) = true
                  rw [e]; rfl
                have HX1 : Hid (T.extract 0 a.size = a) := by rw [← HT.out]; exact tl_left a b hb0
                have HX2 : Hid (T.extract (a.size + 1) T.size = b) := by rw [← HT.out]; exact tl_right a b hb0
                clear hsz
                go_wp2_with fail
                go_loopg [9, 10] (a.size + 1) (fun g s9 s10 wx => w2 = wx ∧ ((∃ k : Nat, k ≤ a.size ∧ g = a.size + 1 - k ∧ s10 = .int .i64 k ∧ s9 = .int .i64 (-1)) ∨ (g = 0 ∧ s9 = .int .i64 a.size ∧ s10 = .int .i64 ((a.size : Int) + 1))))
                case atStart => exact ⟨rfl, .inl ⟨0, Nat.zero_le _, rfl, rfl, rfl⟩⟩
                case round =>
                  rcases hrel with ⟨rfl, ⟨k, hk, rfl, rfl, rfl⟩ | ⟨rfl, rfl, rfl⟩⟩
                  · have hkT : k < T.size := by omega
                    have hkz : (k : Int) < (T.size : Int) := by omega
                    by_cases hkn : k < a.size
                    · have hne := HLO.out k hkT hkn
                      go_wp2
                      go_roundg (a.size + 1 - (k + 1))
                      case measure => omega
                      case rel => exact ⟨rfl, .inl ⟨k + 1, by omega, rfl, by go_num, rfl⟩⟩
                    · obtain rfl : k = a.size := by omega
                      have hdot := HDOT.out
                      go_wp2
                      go_roundg 0
                      case measure => omega
                      case rel => exact ⟨rfl, .inr ⟨rfl, rfl, rfl⟩⟩
                  · have x1 := HX1.out
                    have x2 := HX2.out
                    have hd0 : decide ((a.size : Int) < 0) = false := decide_eq_false (by omega)
                    have hd1 : (0 : Int) ≤ (a.size : Int) := by omega
                    go_wp2
                    go_ret
                    exact ⟨rfl, hg⟩
        · have DA : Hid (Dig a) := da
          have DB : Hid (¬ Dig b) := db
          clear da db
          go_enter Try.func5, Try.ntmps5
          go_wp2_with fail
          refine (bytes10_yes neg a b _ ha hb).mono ?_
          rintro e w' ⟨rfl, rfl⟩
          go_wp2_with fail
          refine (dig_yes a (by omega) DA.out _).mono ?_
          rintro e w' ⟨rfl, rfl⟩
          go_wp2_with fail
          refine (dig_no b (by omega) DB.out _).mono ?_
          rintro e w' ⟨rfl, rfl⟩
          go_wp2
          go_ret
          exact ⟨rfl, Grown.refl _⟩
      · have DA : Hid (¬ Dig a) := da
        clear da
        go_enter Try.func5, Try.ntmps5
        go_wp2_with fail
        refine (bytes10_yes neg a b _ ha hb).mono ?_
        rintro e w' ⟨rfl, rfl⟩
        go_wp2_with fail
        refine (dig_no a (by omega) DA.out _).mono ?_
        rintro e w' ⟨rfl, rfl⟩
        go_wp2
        go_ret
        exact ⟨rfl, Grown.refl _⟩
    · have hz : (65536 : Int) < (b.size : Int) := by omega
      go_enter Try.func5, Try.ntmps5
      go_wp2_with fail
      refine (bytes10_any neg a b _ h1 h2).mono ?_
      rintro e w' ⟨r, rfl, rfl⟩
      cases r
      all_goals
        go_wp2
        go_ret
        exact ⟨rfl, Grown.refl _⟩
  · have hz : (65536 : Int) < (a.size : Int) := by omega
    go_enter Try.func5, Try.ntmps5
    go_wp2_with fail
    refine (bytes10_any neg a b _ h1 h2).mono ?_
    rintro e w' ⟨r, rfl, rfl⟩
    cases r
    all_goals
      go_wp2
      go_ret
      exact ⟨rfl, Grown.refl _⟩
end Go.Proofs.Qxb6603973a
