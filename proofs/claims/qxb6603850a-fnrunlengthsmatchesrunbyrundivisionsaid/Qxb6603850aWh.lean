import Derived.Test.Qxb6603850aWg
import Derived.Test.Qxb6603850aWf
namespace Go.Proofs.Qxb6603850a
open Go.RowKit

set_option maxHeartbeats 1000000 in
set_option maxRecDepth 1000000 in
theorem equal_any (a b : Option Addr) (n ca cb : Nat) (L : List Int) (w : World) (hn : L.length = n) (hm : n ≤ 1048576) (ha : Seg .u16 w a L) (hb : Seg .u16 w b L) :
    Calls Try.prog 8 #[.slice a n ca, .slice b n cb] w fun e w' => e = .returned (.bool true) ∧ ∃ q, w' = w.drewN q := by
  have HN : Hid (L.length = n) := hn
  have HA : Hid (Seg .u16 w a L) := ha
  have HB : Hid (Seg .u16 w b L) := hb
  clear hn ha hb
  go_enter Try.func8, Try.ntmps8
  go_wp2_with fail
  go_loopg [5, 13] n (fun g s5 s13 wx => ∃ nq k : Nat, wx = w.drewN nq ∧ k ≤ n ∧ g = n - k ∧ s13 = .int .i64 k)
  case atStart => exact ⟨0, 0, rfl, Nat.zero_le _, rfl, rfl⟩
  case round =>
    obtain ⟨nq, k, rfl, hk, rfl, rfl⟩ := hrel
    by_cases hkn : k < n
    · obtain ⟨b1, off, rfl, hb1, hc1⟩ : ∃ b off, a = some ⟨b, off, none⟩ ∧ b < w.heap.size ∧ ∀ j, j < L.length → w.cell? ⟨b, off + j, none⟩ = some (.int .u16 (L.getD j 0)) := by
        rcases HA.out with h | h
        · have := HN.out; rw [h] at this; simp at this; omega
        · exact h
      obtain ⟨b2, off2, rfl, hb2, hc2⟩ : ∃ b3 off3, b = some ⟨b3, off3, none⟩ ∧ b3 < w.heap.size ∧ ∀ j, j < L.length → w.cell? ⟨b3, off3 + j, none⟩ = some (.int .u16 (L.getD j 0)) := by
        rcases HB.out with h | h
        · have := HN.out; rw [h] at this; simp at this; omega
        · exact h
      have hkz : (k : Int) < (n : Int) := by omega
      have hk0 : (0 : Int) ≤ (k : Int) := by omega
      have hck := hc1 k (by rw [HN.out]; exact hkn)
      have hcg := hc2 k (by rw [HN.out]; exact hkn)
      obtain ⟨x, hx⟩ : ∃ x, L.getD k 0 = x := ⟨_, rfl⟩
      rw [hx] at hck hcg
      clear hc1 hc2 hx
      go_wp2
      go_quiet (fail)
      go_wp2
      go_roundg (n - (k + 1))
      case measure => omega
      case rel => exact ⟨_, k + 1, rfl, by omega, rfl, by go_num⟩
    · have hkz : ¬ ((k : Int) < (n : Int)) := by omega
      go_wp2
      go_ret
      exact ⟨rfl, _, rfl⟩

set_option maxHeartbeats 2000000 in
set_option maxRecDepth 1000000 in
theorem model_any (sa : Option Addr) (n cap : Nat) (xs : List Int) (hn : xs.length = n) (hm : n ≤ 65536) (hbd : ∀ j, 0 ≤ xs.getD j 0 ∧ xs.getD j 0 ≤ 255) (w : World) (hs : Seg .u8 w sa xs) :
    Calls Try.prog 10 #[.slice sa n cap] w fun e w' => ∃ v', e = .returned v' ∧ ∃ L, Hid (L = Pl.enc xs) ∧ w'.ownsRow w.heap.size 43 1 v' L.length (L.map (Value.int .u16)) ∧ Below w.heap.size w w' := by
  have HN : Hid (xs.length = n) := hn
  have HB : Hid (∀ j, 0 ≤ xs.getD j 0 ∧ xs.getD j 0 ≤ 255) := hbd
  have HS : Hid (Seg .u8 w sa xs) := hs
  clear hn hbd hs
  obtain ⟨i0, hi, hz0, hz1, hz2⟩ := info_parts Try.info43
  go_enter Try.func10, Try.ntmps10
  go_wp2_with (at_make; refine wpList_make_own _ rfl _ _ 26 rfl w.heap.size 43 i0 (.int .u16 0) 1 Try.underlying26 hi hz0 hz1 _ _ _ n rfl rfl rfl (by rw [hz2]; omega) (by unfold maxLen; omega) (Nat.le_refl _) ?_)
  intro w1 hown hgrow
  have hb1 : Below w.heap.size w w1 := (Below.refl _ _).grown hgrow (Nat.le_refl _) (fun k h => by cases h)
  clear hgrow
  go_wp2_with fail
  go_loopg [3, 4] n (fun g s3 s4 wr => ∃ (k : Nat) (L : List Int), k ≤ n ∧ g = n - k ∧ s4 = .int .i64 k ∧ Hid (L ++ Pl.enc (xs.drop k) = Pl.enc xs) ∧ wr.ownsRow w.heap.size 43 1 s3 L.length (L.map (Value.int .u16)) ∧ Below w.heap.size w wr)
  case atStart => exact ⟨0, [], Nat.zero_le _, rfl, rfl, rfl, hown, hb1⟩
  case round =>
    clear hown hb1
    obtain ⟨k, L, hk, rfl, rfl, HE, hown, hbel⟩ := hrel
    by_cases hkn : k < n
    · obtain ⟨b, off, rfl, hb, hc⟩ : ∃ b off, sa = some ⟨b, off, none⟩ ∧ b < wr.heap.size ∧ ∀ j, j < xs.length → wr.cell? ⟨b, off + j, none⟩ = some (.int .u8 (xs.getD j 0)) := by
        rcases HS.out.carry hbel (Nat.le_refl _) with h | h
        · have := HN.out; rw [h] at this; simp at this; omega
        · exact h
      have HC : Hid (∀ j, j < n → wr.cell? ⟨b, off + j, none⟩ = some (.int .u8 (xs.getD j 0))) := by rw [← HN.out]; exact hc
      clear hc
      have hkz : (k : Int) < (n : Int) := by omega
      have hk0 : (0 : Int) ≤ (k : Int) := by omega
      have hck := HC.out k hkn
      obtain ⟨x, hx⟩ : ∃ x, xs.getD k 0 = x := ⟨_, rfl⟩
      have hx0 := HB.out k
      rw [hx] at hck hx0
      have HE1 : Hid (L ++ Pl.encA x 1 (xs.drop (k + 1)) = Pl.enc xs) := by
        have := HE.out
        rw [Pl.enc_at xs k (by rw [HN.out]; exact hkn), hx] at this
        exact this
      clear HE hx
      go_upto_block 2 with fail
      go_cut [5] (fun s5 wx => ∃ nq j : Nat, wx = wr.drewN nq ∧ k + 1 ≤ j ∧ j ≤ n ∧ s5 = .int .i64 j ∧ Hid (L ++ (Pl.run x (j - k) ++ Pl.enc (xs.drop j)) = Pl.enc xs))
      case first =>
        go_wp2_with fail
        go_loopg [5] (n - (k + 1)) (fun g s5 wx => ∃ nq j : Nat, wx = wr.drewN nq ∧ k + 1 ≤ j ∧ j ≤ n ∧ g = n - j ∧ s5 = .int .i64 j ∧ Hid (L ++ Pl.encA x (j - k) (xs.drop j) = Pl.enc xs))
        case atStart => exact ⟨0, k + 1, rfl, by omega, by omega, rfl, by go_num, by rw [show k + 1 - k = 1 from by omega]; exact HE1⟩
        case round =>
          clear HE1 hown
          obtain ⟨nq, j, rfl, hj1, hj2, rfl, rfl, HE⟩ := hrel
          by_cases hjn : j < n
          · have hjz : (j : Int) < (n : Int) := by omega
            have hj0 : (0 : Int) ≤ (j : Int) := by omega
            have hcj := HC.out j hjn
            obtain ⟨y, hy⟩ : ∃ y, xs.getD j 0 = y := ⟨_, rfl⟩
            rw [hy] at hcj
            have HY : Hid (xs.getD j 0 = y) := hy
            clear hy
            by_cases hyx : y = x
            · subst hyx
              go_wp2
              go_quiet (fail)
              go_wp2
              go_roundg (n - (j + 1))
              case measure => omega
              case rel => exact ⟨_, j + 1, rfl, by omega, by omega, rfl, by go_num, by rw [show j + 1 - k = (j - k) + 1 from by omega, ← Pl.encA_more xs y (j - k) j (by rw [HN.out]; exact hjn) HY.out]; exact HE⟩
            · have hyb : (y == x) = false := by simpa using hyx
              have HYX : Hid (y ≠ x) := hyx
              clear hyx
              go_wp2
              go_quiet (fail)
              go_wp2
              go_meet
              exact ⟨_, j, by first | rfl | exact World.drewN_drewN .., hj1, hj2, rfl, by rw [Pl.encA_stop xs x (j - k) j (fun _ => by rw [HY.out]; exact HYX.out)] at HE; exact HE⟩
          · have hjz : decide ((j : Int) < (n : Int)) = false := decide_eq_false (by omega)
            go_wp2
            go_quiet (fail)
            go_wp2
            go_meet
            exact ⟨_, j, by first | rfl | exact World.drewN_drewN .., hj1, hj2, rfl, by rw [Pl.encA_stop xs x (j - k) j (fun h => by rw [HN.out] at h; omega)] at HE; exact HE⟩
      case rest =>
        clear HE1 HC
        obtain ⟨nq, j, rfl, hj1, hj2, rfl, HE⟩ := hcut
        have hown' : (wr.drewN nq).ownsRow w.heap.size 43 1 u3 L.length (L.map (Value.int .u16)) := hown
        have hsz : w.heap.size ≤ (wr.drewN nq).heap.size := hbel.size
        have hLl : L.length ≤ 65536 := by have h1 := Pl.len_of HE.out; have h2 := Pl.enc_len xs; rw [HN.out] at h2; omega
        clear hown
        have hbel' : Below w.heap.size w (wr.drewN nq) := below_drewN hbel nq
        clear hbel
        by_cases hx : x = 0
        · have hxb : (x == 0) = true := by simpa using hx
          have HE2 : Hid (L ++ Pl.zr (j - k) ++ Pl.enc (xs.drop j) = Pl.enc xs) := by
            have h := HE.out
            unfold Pl.run at h
            rw [if_pos hx] at h
            rw [List.append_assoc]; exact h
          clear HE hx
          go_wp2_with fail
          rw [show ((j : Int) - (k : Int)) = ((j - k : Nat) : Int) from by omega]
          refine (zero_any w.heap.size u3 L (j - k) (by omega) hLl _ hsz hown').mono ?_
          rintro e w2 ⟨v2, rfl, L2, HL2, ho2, hb2⟩
          have hb3 := hbel'.trans hb2
          clear hown' hsz hck hbel' hb2
          go_wp2
          go_roundg (n - j)
          case measure => omega
          case rel => exact ⟨j, L2, hj2, rfl, rfl, by rw [HL2.out]; exact HE2, ho2, hb3⟩
        · have hxb : (x == 0) = false := by simpa using hx
          have HE2 : Hid (L ++ x :: Pl.lr x (j - k - 1) ++ Pl.enc (xs.drop j) = Pl.enc xs) := by
            have h := HE.out
            unfold Pl.run at h
            rw [if_neg hx] at h
            rw [List.append_assoc]; exact h
          clear HE hx
          go_wp2_with fail
          rw [show ((j : Int) - (k : Int)) = ((j - k : Nat) : Int) from by omega]
          refine (len_any w.heap.size u3 L x hx0.1 hx0.2 (j - k) (by omega) (by omega) hLl _ hsz hown').mono ?_
          rintro e w2 ⟨v2, rfl, L2, HL2, ho2, hb2⟩
          have hb3 := hbel'.trans hb2
          clear hown' hsz hck hbel' hb2
          go_wp2
          go_roundg (n - j)
          case measure => omega
          case rel => exact ⟨j, L2, hj2, rfl, rfl, by rw [HL2.out]; exact HE2, ho2, hb3⟩
    · have hkz : ¬ ((k : Int) < (n : Int)) := by omega
      go_wp2
      go_ret
      have h := HE.out
      rw [List.drop_eq_nil_of_le (by rw [HN.out]; omega), show Pl.enc [] = [] from rfl, List.append_nil] at h
      exact ⟨_, rfl, L, h, hown, hbel⟩
end Go.Proofs.Qxb6603850a
