import Derived.Test.Qxb6604018aWc
namespace Go.Proofs.Qxb6604018a
open Go.RowKit

theorem ret_i {a b : Int} (h : a = b) : Ending.returned (.int .i64 a) = .returned (.int .i64 b) := by rw [h]

set_option maxHeartbeats 2000000 in
set_option maxRecDepth 1000000 in
theorem tally_any (a : Option Addr) (len cap : Nat) (ss : List ByteArray) (r : ByteArray) (hl : ss.length = len) (hm : len ≤ 65536) (hsz : ∀ s ∈ ss, s.size ≤ 9223372036854775807) (m : Nat) :
    ∀ (lo hi : Nat) (w : World), hi - lo ≤ m → lo ≤ hi → hi ≤ len → Seg w a ss →
    Calls Try.prog 9 #[.slice a len cap, .int .i64 lo, .int .i64 hi, .string r] w fun e w' => e = .returned (.int .i64 (Pl.cr (lsOf ss) lo hi r.toList)) ∧ ∃ q, w' = w.drewN q := by
  have HL : Hid (ss.length = len) := hl
  have HZ : Hid (∀ s ∈ ss, s.size ≤ 9223372036854775807) := hsz
  clear hl hsz
  induction m with
  | zero =>
    intro lo hi w hlh hle hhi hs
    obtain rfl : lo = hi := by omega
    have HC : Hid (Pl.cr (lsOf ss) lo lo r.toList = 0) := Pl.cr_empty _ _ _ _ (Nat.le_refl _)
    generalize Pl.cr (lsOf ss) lo lo r.toList = C at HC ⊢
    clear hs
    go_enter Try.func9, Try.ntmps9
    go_wp2_with fail
    go_ret
    exact ⟨ret_i (by rw [HC.out]; rfl), 0, rfl⟩
  | succ m ih =>
    intro lo hi w hlh hle hhi hs
    have IH : Hid _ := ih
    have HS : Hid (Seg w a ss) := hs
    clear ih hs
    by_cases h0 : hi ≤ lo
    · have HC : Hid (Pl.cr (lsOf ss) lo hi r.toList = 0) := Pl.cr_empty _ _ _ _ h0
      generalize Pl.cr (lsOf ss) lo hi r.toList = C at HC ⊢
      go_enter Try.func9, Try.ntmps9
      go_wp2_with fail
      go_ret
      exact ⟨ret_i (by rw [HC.out]; rfl), 0, rfl⟩
    · by_cases h1 : hi = lo + 1
      · have hlol : lo < (lsOf ss).length := by rw [lsOf_len, HL.out]; omega
        obtain ⟨b, off, rfl, hb, hc⟩ := seg_at HS.out (k := lo) (by rw [HL.out]; omega)
        have hcell := hc lo (by rw [HL.out]; omega)
        have hys := size_of HZ.out lo
        obtain ⟨y, hy⟩ : ∃ y, ss.getD lo ByteArray.empty = y := ⟨_, rfl⟩
        have HC : Hid (Pl.cr (lsOf ss) lo hi r.toList = if y.toList = r.toList then 1 else 0) := by
          show Pl.cr (lsOf ss) lo hi r.toList = _
          rw [h1, Pl.cr_one _ _ _ hlol, lsOf_get, hy]
        rw [hy] at hcell hys
        generalize Pl.cr (lsOf ss) lo hi r.toList = C at HC ⊢
        have hz1 : ((hi : Int) - (lo : Int) == 1) = true := by rw [h1]; simp; omega
        have hz0 : ¬ ((hi : Int) - (lo : Int) ≤ 0) := by omega
        have hz2 : (lo : Int) < (len : Int) := by omega
        clear hc hy h0 h1 IH HS
        go_enter Try.func9, Try.ntmps9
        go_wp2_with fail
        refine (same_any y r hys _).mono ?_
        rintro e w2 ⟨rfl, n, rfl⟩
        by_cases he : y.toList = r.toList
        · have hsm : sm y r = true := decide_eq_true he
          have HC1 : Hid (C = 1) := by show C = 1; rw [HC.out, if_pos he]
          clear HC he
          rw [hsm]
          go_wp2_with fail
          go_ret
          exact ⟨ret_i (by rw [HC1.out]; rfl), _, rfl⟩
        · have hsm : sm y r = false := decide_eq_false he
          have HC1 : Hid (C = 0) := by show C = 0; rw [HC.out, if_neg he]
          clear HC he
          rw [hsm]
          go_wp2_with fail
          go_ret
          exact ⟨ret_i (by rw [HC1.out]; rfl), _, rfl⟩
      · obtain ⟨mid, hmid⟩ : ∃ mid : Nat, (lo : Int) + ((hi : Int) - (lo : Int)) / 2 = (mid : Int) := ⟨lo + (hi - lo) / 2, by omega⟩
        have hm1 : lo < mid := by omega
        have hm2 : mid < hi := by omega
        have HC : Hid (Pl.cr (lsOf ss) lo hi r.toList = Pl.cr (lsOf ss) lo mid r.toList + Pl.cr (lsOf ss) mid hi r.toList) := Pl.cr_split _ _ _ _ _ (by omega) (by omega) (by rw [lsOf_len, HL.out]; exact hhi)
        have b1 := Pl.cr_le (lsOf ss) lo mid r.toList
        have b2 := Pl.cr_le (lsOf ss) mid hi r.toList
        have I1 : Hid _ := IH.out lo mid w (by omega) (by omega) (by omega) HS.out
        have I2 : Hid (∀ q, Calls Try.prog 9 #[.slice a len cap, .int .i64 mid, .int .i64 hi, .string r] (w.drewN q) fun e w' => e = .returned (.int .i64 (Pl.cr (lsOf ss) mid hi r.toList)) ∧ ∃ q', w' = (w.drewN q).drewN q') :=
          fun q => IH.out mid hi (w.drewN q) (by omega) (by omega) (by omega) (HS.out.carry (below_drewN (Below.refl w.heap.size w) q) (Nat.le_refl _))
        clear IH HS
        generalize Pl.cr (lsOf ss) lo mid r.toList = C1 at HC I1 b1
        generalize Pl.cr (lsOf ss) mid hi r.toList = C2 at HC I2 b2
        generalize Pl.cr (lsOf ss) lo hi r.toList = C at HC ⊢
        have hz1 : ((hi : Int) - (lo : Int) == 1) = false := beq_false_of_ne (by omega)
        have hz0 : ¬ ((hi : Int) - (lo : Int) ≤ 0) := by omega
        clear h0 h1
        go_enter Try.func9, Try.ntmps9
        go_wp2_with fail
        try simp only [hmid]
        clear hmid
        refine Calls.mono I1.out ?_
        rintro e w2 ⟨rfl, q, rfl⟩
        go_wp2_with fail
        refine Calls.mono (I2.out q) ?_
        rintro e w2 ⟨rfl, q2, rfl⟩
        go_wp2_with fail
        go_ret
        exact ⟨ret_i (by rw [HC.out]; simp), _, by first | rfl | exact World.drewN_drewN ..⟩
end Go.Proofs.Qxb6604018a
