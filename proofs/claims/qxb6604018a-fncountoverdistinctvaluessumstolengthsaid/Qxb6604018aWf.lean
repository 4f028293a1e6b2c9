import Derived.Test.Qxb6604018aWc
namespace Go.Proofs.Qxb6604018a
open Go.RowKit

theorem same_at (a b : ByteArray) (r : Bool) (h : sm a b = r) (ha : a.size ≤ 9223372036854775807) (w : World) :
    Calls Try.prog 11 #[.string a, .string b] w fun e w' => e = .returned (.bool r) ∧ ∃ n, w' = w.drewN n := by
  subst h; exact same_any a b ha w

set_option maxHeartbeats 4000000 in
set_option maxRecDepth 1000000 in
theorem law4 (a : Option Addr) (len cap : Nat) (ss : List ByteArray) (w : World) (h0 : a = none → len = 0 ∧ cap = 0) (hl : ss.length = len) (hml : len ≤ 9223372036854775807) (hsz : ∀ s ∈ ss, s.size ≤ 9223372036854775807) (hs : Seg w a ss) :
    Calls Try.prog 4 #[.slice a len cap] w fun e w' => e = .returned (.bool true) ∧ Below w.heap.size w w' := by
  have HL : Hid (ss.length = len) := hl
  have HS : Hid (Seg w a ss) := hs
  have HZ : Hid (∀ s ∈ ss, s.size ≤ 9223372036854775807) := hsz
  have H0 : Hid (a = none → len = 0 ∧ cap = 0) := h0
  clear hl hs hsz h0
  go_enter Try.func4, Try.ntmps4
  go_wp2_with fail
  refine (bytes10_any a len cap ss _ HL.out hml HZ.out HS.out).mono ?_
  rintro e w2 ⟨⟨b, rfl⟩, rfl⟩
  cases b with
  | false =>
    go_wp2
    go_ret
    exact ⟨rfl, Below.refl _ _⟩
  | true =>
    by_cases h12 : len ≤ 4096
    · go_wp2_with fail
      refine (within_any a len cap ss _ _ HL.out hml (by decide) HZ.out HS.out).mono ?_
      rintro e w2 ⟨⟨b, rfl⟩, rfl⟩
      cases b with
      | false =>
        go_wp2
        go_ret
        exact ⟨rfl, Below.refl _ _⟩
      | true =>
        go_wp2_with fail
        refine (rs_any a len cap ss _ H0.out HL.out (by omega) HS.out).mono ?_
        rintro e w2 ⟨a1, c1, rfl, hb2, hs2⟩
        have HS2 : Hid (Seg w2 a1 ss) := hs2
        have HS3 : Hid (Seg w2 a ss) := HS.out.carry hb2 (Nat.le_refl _)
        have HB2 : Hid (Below w.heap.size w w2) := hb2
        have hln : (lsOf ss).length = len := by rw [lsOf_len, HL.out]
        have HLN : Hid ((lsOf ss).length = len) := hln
        clear hs2 hb2 HS H0 hln
        go_wp2_with fail
        go_loopg [4, 5] len (fun g s4 s5 wx => ∃ q i c : Nat, wx = w2.drewN q ∧ i ≤ len ∧ c ≤ len ∧ g = len - i ∧ s5 = .int .i64 i ∧ s4 = .int .i64 c ∧ Hid (c = Pl.cov (lsOf ss) i))
        case atStart => exact ⟨0, 0, 0, rfl, Nat.zero_le _, Nat.zero_le _, rfl, rfl, rfl, (Pl.cov_zero _).symm⟩
        case round =>
          obtain ⟨q, i, c, rfl, hi, hc, rfl, rfl, rfl, HC⟩ := hrel
          by_cases hin : i < len
          · have hiz : (i : Int) < (len : Int) := by omega
            have hi0 : (0 : Int) ≤ (i : Int) := by omega
            have hil : i < (lsOf ss).length := by rw [HLN.out]; exact hin
            obtain ⟨b1, off1, rfl, hb1, hc1⟩ := seg_at HS3.out (k := i) (by rw [HL.out]; exact hin)
            obtain ⟨b2, off2, rfl, hb2, hc2⟩ := seg_at HS2.out (k := i) (by rw [HL.out]; exact hin)
            have HC1 : Hid (∀ j, j < len → w2.cell? ⟨b1, off1 + j, none⟩ = some (.string (ss.getD j ByteArray.empty))) := by rw [← HL.out]; exact hc1
            have hci := HC1.out i hin
            have hdi := hc2 i (by rw [HL.out]; exact hin)
            obtain ⟨y, hy⟩ : ∃ y, ss.getD i ByteArray.empty = y := ⟨_, rfl⟩
            rw [hy] at hci hdi
            have HY : Hid ((lsOf ss)[i]'hil = y.toList) := by rw [lsOf_get, hy]; rfl
            clear hc1 hc2 hy
            go_upto_block 2 with fail
            go_cut [6, 7] (fun s6 s7 wx => ∃ (q' : Nat) (fb : Bool), wx = w2.drewN q' ∧ s6 = .bool fb ∧ Hid (fb = true ↔ (lsOf ss)[i]'hil ∉ (lsOf ss).take i))
            case first =>
              go_wp2_with fail
              go_loopg [6, 7] i (fun g s6 s7 wx => ∃ j : Nat, Hid (∃ q', wx = w2.drewN q') ∧ j ≤ i ∧ g = i - j ∧ s6 = .bool true ∧ s7 = .int .i64 j ∧ Hid (∀ k (h : k < (lsOf ss).length), k < j → (lsOf ss)[k]'h ≠ y.toList))
              case atStart => exact ⟨0, ⟨q, rfl⟩, Nat.zero_le _, rfl, rfl, rfl, fun k _ h => by omega⟩
              case round =>
                clear HC
                obtain ⟨j, HW, hj, rfl, rfl, rfl, HN⟩ := hrel
                have HCW : Hid (∀ p, wr.cell? p = w2.cell? p) := fun p => by obtain ⟨q', e⟩ := HW.out; rw [e]; rfl
                by_cases hji : j < i
                · have hjz : (j : Int) < (i : Int) := by omega
                  have hjl : (j : Int) < (len : Int) := by omega
                  have hj0 : (0 : Int) ≤ (j : Int) := by omega
                  have hjl2 : j < (lsOf ss).length := by omega
                  have hcj := (HCW.out _).trans (HC1.out j (by omega))
                  have hci' := (HCW.out _).trans hci
                  have hxs := size_of HZ.out j
                  obtain ⟨x, hx⟩ : ∃ x, ss.getD j ByteArray.empty = x := ⟨_, rfl⟩
                  rw [hx] at hcj hxs
                  have HX : Hid ((lsOf ss)[j]'hjl2 = x.toList) := by rw [lsOf_get, hx]; rfl
                  clear hx
                  by_cases he : x.toList = y.toList
                  · have hsm : Hid (sm x y = true) := decide_eq_true he
                    have HE : Hid (x.toList = y.toList) := he
                    clear he
                    go_wp2
                    go_quiet ((go_at_call 11; exact Calls.quiet_of (same_at x y true hsm.out hxs _)))
                    go_wp2
                    go_meet
                    obtain ⟨q', e⟩ := HW.out
                    refine ⟨q' + nq, false, by rw [e]; exact World.drewN_drewN .., rfl, ?_⟩
                    refine ⟨(fun h => by cases h), fun h => absurd ?_ h⟩
                    rw [HY.out, Pl.mem_take_iff _ _ (by omega)]
                    exact ⟨j, hji, by rw [HX.out, HE.out]⟩
                  · have hsm : Hid (sm x y = false) := decide_eq_false he
                    have HE : Hid (¬ x.toList = y.toList) := he
                    clear he
                    go_wp2
                    go_quiet ((go_at_call 11; exact Calls.quiet_of (same_at x y false hsm.out hxs _)))
                    go_wp2
                    go_roundg (i - (j + 1))
                    case measure => omega
                    case rel =>
                      obtain ⟨q', e⟩ := HW.out
                      refine ⟨j + 1, ⟨q' + nq, by rw [e]; exact World.drewN_drewN ..⟩, by omega, rfl, rfl, by go_num, fun k h hk => ?_⟩
                      by_cases e : k = j
                      · subst e; rw [HX.out]; exact HE.out
                      · exact HN.out k h (by omega)
                · have hjz : ¬ ((j : Int) < (i : Int)) := by omega
                  go_wp2
                  go_meet
                  obtain ⟨q', e⟩ := HW.out
                  refine ⟨q', true, e, rfl, fun _ => ?_, fun _ => rfl⟩
                  rw [HY.out, Pl.mem_take_iff _ _ (by omega)]
                  rintro ⟨k, hk, e⟩
                  exact HN.out k (by omega) (by omega) e
            case rest =>
              obtain ⟨q', fb, rfl, rfl, HF⟩ := hcut
              clear HC1 hci
              cases fb with
              | false =>
                have HC2 : Hid (c = Pl.cov (lsOf ss) (i + 1)) := by
                  show c = _
                  rw [Pl.cov_old _ i hil (Classical.byContradiction fun h => by have := HF.out.2 h; cases this)]
                  exact HC.out
                go_wp2
                go_roundg (len - (i + 1))
                case measure => omega
                case rel => exact ⟨_, i + 1, c, rfl, by omega, hc, rfl, by go_num, rfl, HC2⟩
              | true =>
                have HC2 : Hid (c + (lsOf ss).count y.toList = Pl.cov (lsOf ss) (i + 1)) := by
                  show _ = _
                  rw [Pl.cov_new _ i hil (HF.out.1 rfl), HC.out, HY.out]
                have hle := Pl.cov_le (lsOf ss) (i + 1)
                rw [← HC2.out, HLN.out] at hle
                have hge := Pl.count_pos (lsOf ss) i hil
                rw [HY.out] at hge
                go_wp2_with fail
                refine (zcount_any _ len c1 ss y _ HL.out (by omega) (HS2.out.carry (below_drewN (Below.refl w2.heap.size w2) q') (Nat.le_refl _))).mono ?_
                rintro e w3 ⟨rfl, rfl⟩
                generalize (lsOf ss).count y.toList = N at HC2 hle hge ⊢
                have hgz : (1 : Int) ≤ (N : Int) := by omega
                go_wp2
                go_roundg (len - (i + 1))
                case measure => omega
                case rel => exact ⟨_, i + 1, c + N, rfl, by omega, hle, rfl, by go_num, by go_num, HC2⟩
          · have hiz : ¬ ((i : Int) < (len : Int)) := by omega
            have hcl : c = len := by
              rw [HC.out, show i = (lsOf ss).length from by rw [HLN.out]; omega, Pl.cov_full, HLN.out]
            have hcb : ((c : Int) == (len : Int)) = true := by rw [hcl]; simp
            clear hcl HC
            go_wp2
            go_ret
            exact ⟨rfl, below_drewN HB2.out _⟩
    · have hz : (4096 : Int) < (len : Int) := by omega
      go_wp2
      go_ret
      exact ⟨rfl, Below.refl _ _⟩
end Go.Proofs.Qxb6604018a
