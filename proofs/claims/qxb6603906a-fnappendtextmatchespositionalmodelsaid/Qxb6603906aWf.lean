import Derived.Test.Qxb6603906aWe
namespace Go.Proofs.Qxb6603906a
open Go.RowKit

theorem bytes5_yes (neg : Bool) (s : ByteArray) (ex : Int) (a : Option Addr) (len cap : Nat) (w : World) (h1 : s.size ≤ 524288) (h2 : len ≤ 524288) : Calls Try.prog 5 #[.bool neg, .string s, .int .i64 ex, .slice a len cap] w fun e w' => e = .returned (.bool true) ∧ w = w' := by
  go_enter Try.func5, Try.ntmps5
  go_wp2
  go_ret
  exact ⟨rfl, rfl⟩

theorem bytes5_any (neg : Bool) (s : ByteArray) (ex : Int) (a : Option Addr) (len cap : Nat) (w : World) (hs : s.size ≤ 9223372036854775807) (hl : len ≤ 9223372036854775807) : Calls Try.prog 5 #[.bool neg, .string s, .int .i64 ex, .slice a len cap] w fun e w' => ∃ b, e = .returned (.bool b) ∧ w = w' := by
  go_enter Try.func5, Try.ntmps5
  go_wp2
  all_goals (go_ret; exact ⟨_, rfl, rfl⟩)

theorem Own.kept {B : Nat} {w w' : World} {v : Value} {H : List Int} {row : Option Nat} {C : Nat} (h : Own B w v H) (hg : w.grownBy w' row) (hr : ∀ k, row = some k → k < C) (hC : C ≤ B) : Own B w' v H := by
  refine World.ownsRow.kept h hg ?_
  by_cases hn : v.ownBlock = none
  · exact .inl hn
  · refine .inr fun e => ?_
    obtain ⟨k, hk⟩ := Option.ne_none_iff_exists'.1 hn
    have h1 := (World.ownsRow.lt h k hk).1
    have h2 := hr k (by rw [← e]; exact hk)
    omega

theorem seg_at {w : World} {a : Option Addr} {xs : List Int} (h : Seg w a xs) {k : Nat} (hk : k < xs.length) : ∃ b off, a = some ⟨b, off, none⟩ ∧ ∀ j, j < xs.length → w.cell? ⟨b, off + j, none⟩ = some (.int .u8 (xs.getD j 0)) := by
  rcases h with h | ⟨b, off, h1, _, h2⟩
  · rw [h] at hk; simp at hk
  · exact ⟨b, off, h1, h2⟩

theorem getD_left (a b : List Int) (k : Nat) (h : k < a.length) : (a ++ b).getD k 0 = a.getD k 0 := by
  simp [List.getD, List.getElem?_append_left h]
theorem getD_right (a b : List Int) (k : Nat) : (a ++ b).getD (a.length + k) 0 = b.getD k 0 := by
  simp [List.getD, List.getElem?_append_right]

set_option maxHeartbeats 4000000 in
set_option maxRecDepth 1000000 in
theorem law3 (neg : Bool) (s : ByteArray) (hs : s.size ≤ 9223372036854775807) (ex : Int) (hx1 : ex ≤ 9223372036854775807) (hx2 : -9223372036854775808 ≤ ex) (a0 : Option Addr) (len cap : Nat) (xs : List Int) (w : World) (h0 : a0 = none → len = 0 ∧ cap = 0) (hl : xs.length = len) (hseg : Seg w a0 xs) (hml : len ≤ 9223372036854775807) :
    Calls Try.prog 3 #[.bool neg, .string s, .int .i64 ex, .slice a0 len cap] w fun e w' => e = .returned (.bool true) ∧ Below w.heap.size w w' := by
  by_cases hin : s.size ≤ 524288 ∧ len ≤ 524288 ∧ ex ≤ 65536 ∧ -65536 ≤ ex
  · obtain ⟨hi1, hi2, hi3, hi4⟩ := hin
    have HL : Hid (xs.length = len) := hl
    have HS : Hid (Seg w a0 xs) := hseg
    have H0 : Hid (a0 = none → len = 0 ∧ cap = 0) := h0
    clear hl hseg h0
    go_enter Try.func3, Try.ntmps3
    go_wp2_with (go_at_call 5; refine (bytes5_yes neg s ex a0 len cap _ hi1 hi2).mono ?_; rintro e w' ⟨rfl, rfl⟩)
    refine (clone_any a0 len cap xs _ H0.out HL.out (by omega) HS.out).mono ?_
    rintro e w1 ⟨a1, c1, rfl, hb1, ho1, h01⟩
    go_wp2_with fail
    refine (clone_any a1 len c1 xs _ h01 HL.out (by omega) ho1.seg).mono ?_
    rintro e w2 ⟨a2, c2, rfl, hb2, ho2, _⟩
    go_wp2_with fail
    refine (pos_any neg s hi1 ex hi3 hi4 w2).mono ?_
    rintro e w3 ⟨v3, rfl, M, HM, ho3, hb3⟩
    obtain ⟨ao3, cp3, rfl⟩ := ho3.shape
    go_wp2_with fail
    refine (make_any neg s ex w3).mono ?_
    rintro e w4 ⟨rfl, hb4⟩
    go_wp2_with fail
    have hlt : ∀ k, (Value.slice a1 len c1).ownBlock = some k → w.heap.size ≤ k ∧ k < w1.heap.size := fun k hk => World.ownsRow.lt ho1 k hk
    have z1 := hb1.size; have z2 := hb2.size; have z3 := hb3.size; have z4 := hb4.size
    have p1 := World.ownsRow.alloc ((ho1.carry hb2 (Nat.le_refl _)).carry hb3 (Nat.le_refl _) |>.carry hb4 (Nat.le_refl _)) (.cells #[.bool neg, .string s, .int .i64 ex] 27)
    have p2 := World.ownsRow.alloc ((ho2.carry hb3 (Nat.le_refl _)).carry hb4 (Nat.le_refl _)) (.cells #[.bool neg, .string s, .int .i64 ex] 27)
    have p3 := World.ownsRow.alloc (ho3.carry hb4 (Nat.le_refl _)) (.cells #[.bool neg, .string s, .int .i64 ex] 27)
    have hbel5 : Below w.heap.size w (w4.alloc (.cells #[.bool neg, .string s, .int .i64 ex] 27)) := (((hb1.trans (hb2.mono z1)).trans (hb3.mono (by omega))).trans (hb4.mono (by omega))).alloc (by omega) _
    clear ho1 ho2 ho3 hb1 hb2 hb3 hb4
    generalize hW : w4.alloc (.cells #[.bool neg, .string s, .int .i64 ex] 27) = W5 at p1 p2 p3 hbel5 ⊢
    clear hW
    refine (text_any w.heap.size neg s ex hi1 hi3 hi4 _ xs (by rw [HL.out]; omega) W5 hbel5.size p1).mono ?_
    rintro e w6 ⟨v6, rfl, L, HL6, ho6, hg6⟩
    obtain ⟨ao6, cp6, rfl⟩ := ho6.shape
    have q2 : Own w1.heap.size w6 (.slice a2 len c2) xs := Own.kept p2 hg6 (fun k hk => (hlt k hk).2) (Nat.le_refl _)
    have q3 : Own w2.heap.size w6 (.slice ao3 M.length cp3) M := Own.kept p3 hg6 (fun k hk => (hlt k hk).2) z2
    have HBEL : Hid (Below w.heap.size w w6) := hbel5.grown hg6 hbel5.size (fun k hk => (hlt k hk).1)
    have HS6 : Hid (Seg w6 ao6 L) := ho6.seg
    have HS2 : Hid (Seg w6 a2 xs) := q2.seg
    have HS3 : Hid (Seg w6 ao3 M) := q3.seg
    have HLM : Hid (L = xs ++ M) := by show L = _; rw [HL6.out, HM.out]
    have hmb : M.length ≤ 600001 := by rw [HM.out]; exact Pl.text_bd neg (bys s) ex (by rw [bys_len]; exact hi1) hi3 hi4
    have hLl : L.length = len + M.length := by rw [HLM.out, List.length_append, HL.out]
    rw [hLl]
    clear p1 p2 p3 hbel5 hg6 q2 q3 ho6 hlt HL6 HM h01 z1 z2 z3 z4
    obtain ⟨m, hm⟩ : ∃ m, M.length = m := ⟨_, rfl⟩
    have HMm : Hid (M.length = m) := hm
    have HLL : Hid (L.length = len + M.length) := hLl
    rw [hm] at hmb ⊢
    clear hm hLl
    go_wp2_with fail
    go_loopg [13] len (fun g s13 wx => ∃ nq k : Nat, wx = w6.drewN nq ∧ k ≤ len ∧ g = len - k ∧ s13 = .int .i64 k)
    case atStart => exact ⟨0, 0, rfl, Nat.zero_le _, rfl, rfl⟩
    case round =>
      obtain ⟨nq, k, rfl, hk, rfl, rfl⟩ := hrel
      by_cases hkn : k < len
      · obtain ⟨b1, off1, rfl, hc1⟩ := seg_at HS6.out (k := k) (by rw [HLL.out]; omega)
        obtain ⟨b2, off2, rfl, hc2⟩ := seg_at HS2.out (k := k) (by rw [HL.out]; omega)
        have hkz : (k : Int) < (len : Int) := by omega
        have hkz2 : (k : Int) < (len : Int) + (m : Int) := by omega
        have hk0 : (0 : Int) ≤ (k : Int) := by omega
        have g1 := hc1 k (by rw [HLL.out]; omega)
        have g2 := hc2 k (by rw [HL.out]; omega)
        rw [HLM.out, getD_left xs M k (by rw [HL.out]; omega)] at g1
        obtain ⟨x, hx⟩ : ∃ x, xs.getD k 0 = x := ⟨_, rfl⟩
        rw [hx] at g1 g2
        clear hc1 hc2 hx
        go_wp2
        go_quiet (fail)
        go_wp2
        go_roundg (len - (k + 1))
        case measure => omega
        case rel => exact ⟨_, k + 1, by first | rfl | exact World.drewN_drewN .., by omega, rfl, by go_num⟩
      · have hkz : ¬ ((k : Int) < (len : Int)) := by omega
        go_wp2_with fail
        go_loopg [14] m (fun g s14 wx => ∃ nq k : Nat, wx = w6.drewN nq ∧ k ≤ m ∧ g = m - k ∧ s14 = .int .i64 k)
        case atStart => exact ⟨nq, 0, rfl, Nat.zero_le _, rfl, rfl⟩
        case round =>
          obtain ⟨nq, k, rfl, hk, rfl, rfl⟩ := hrel
          by_cases hkn : k < m
          · obtain ⟨b1, off1, rfl, hc1⟩ := seg_at HS6.out (k := k) (by rw [HLL.out, HMm.out]; omega)
            obtain ⟨b2, off2, rfl, hc2⟩ := seg_at HS3.out (k := k) (by rw [HMm.out]; omega)
            have hkz : (k : Int) < (m : Int) := by omega
            have hkz2 : (len : Int) + (k : Int) < (len : Int) + (m : Int) := by omega
            have hk0 : (0 : Int) ≤ (k : Int) := by omega
            have hk1 : (0 : Int) ≤ (len : Int) + (k : Int) := by omega
            have g1 := hc1 (len + k) (by rw [HLL.out, HMm.out]; omega)
            have g2 := hc2 k (by rw [HMm.out]; omega)
            have hgr := getD_right xs M k
            rw [HL.out] at hgr
            rw [HLM.out, hgr] at g1
            obtain ⟨x, hx⟩ : ∃ x, M.getD k 0 = x := ⟨_, rfl⟩
            rw [hx] at g1 g2
            clear hc1 hc2 hx hgr
            go_wp2
            go_quiet (fail)
            go_wp2
            go_roundg (m - (k + 1))
            case measure => omega
            case rel => exact ⟨_, k + 1, by first | rfl | exact World.drewN_drewN .., by omega, rfl, by go_num⟩
          · have hkz : ¬ ((k : Int) < (m : Int)) := by omega
            go_wp2
            go_ret
            exact ⟨rfl, below_drewN HBEL.out _⟩
  · clear hseg
    by_cases h1 : s.size ≤ 524288
    · by_cases h2 : len ≤ 524288
      · have hd : (decide ((65536 : Int) < ex) = true) ∨ (decide ((65536 : Int) < ex) = false ∧ decide (ex < -65536) = true) := by
          by_cases h : (65536 : Int) < ex
          · exact .inl (decide_eq_true h)
          · exact .inr ⟨decide_eq_false h, decide_eq_true (by omega)⟩
        clear hin
        rcases hd with hd | ⟨hd, hd2⟩
        all_goals
          go_enter Try.func3, Try.ntmps3
          go_wp2_with (go_at_call 5; refine (bytes5_yes neg s ex a0 len cap _ h1 h2).mono ?_; rintro e w' ⟨rfl, rfl⟩)
          go_ret
          exact ⟨rfl, Below.refl _ _⟩
      · have hz : (524288 : Int) < (len : Int) := by omega
        clear hin
        go_enter Try.func3, Try.ntmps3
        go_wp2_with fail
        refine (bytes5_any neg s ex a0 len cap _ hs hml).mono ?_
        rintro e w' ⟨b, rfl, rfl⟩
        cases b
        all_goals
          go_wp2
          go_ret
          exact ⟨rfl, Below.refl _ _⟩
    · have hz : (524288 : Int) < (s.size : Int) := by omega
      clear hin
      go_enter Try.func3, Try.ntmps3
      go_wp2_with fail
      refine (bytes5_any neg s ex a0 len cap _ hs hml).mono ?_
      rintro e w' ⟨b, rfl, rfl⟩
      cases b
      all_goals
        go_wp2
        go_ret
        exact ⟨rfl, Below.refl _ _⟩
end Go.Proofs.Qxb6603906a
