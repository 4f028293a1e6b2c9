import Derived.Test.Qxb6603850aWd
import Derived.Test.Qxb6603850aPlain2
import Derived.Test.Qxb6603850aWe
import Derived.Deep.QuietTactic
import Derived.BigQuiet
namespace Go.Proofs.Qxb6603850a
open Go.RowKit

theorem clone_any (a0 : Option Addr) (len cap : Nat) (xs : List Int) (w : World) (h0 : a0 = none → len = 0 ∧ cap = 0) (hl : xs.length = len) (hm : len ≤ 1048576) (hs : Seg .u8 w a0 xs) :
    Calls Try.prog 7 #[.slice a0 len cap] w fun e w' => ∃ a1 c1, e = .returned (.slice a1 len c1) ∧ Below w.heap.size w w' ∧ Seg .u8 w' a1 xs := by
  cases a0 with
  | none =>
    obtain ⟨rfl, rfl⟩ := h0 rfl
    refine (clone_nil w).mono fun e w' ⟨he, hw⟩ => ?_
    subst he; subst hw
    exact ⟨none, 0, rfl, Below.refl _ _, .inl (List.eq_nil_of_length_eq_zero hl)⟩
  | some x =>
    refine (clone_some x len cap xs w hl hm hs).mono fun e w' ⟨he, hb, hs'⟩ => ?_
    subst he
    exact ⟨_, _, rfl, hb, hs'⟩

theorem bytes_yes (a : Option Addr) (len cap : Nat) (w : World) (h : len ≤ 1048576) : Calls Try.prog 11 #[.slice a len cap] w fun e w' => e = .returned (.bool true) ∧ w = w' := by
  go_enter Try.func11, Try.ntmps11
  go_wp2
  go_ret
  exact ⟨rfl, rfl⟩

theorem bytes_no (a : Option Addr) (len cap : Nat) (w : World) (h : 1048576 < len) : Calls Try.prog 11 #[.slice a len cap] w fun e w' => e = .returned (.bool false) ∧ w = w' := by
  go_enter Try.func11, Try.ntmps11
  go_wp2
  go_ret
  exact ⟨rfl, rfl⟩

set_option maxHeartbeats 1000000 in
set_option maxRecDepth 1000000 in
theorem law4 (a0 : Option Addr) (len cap : Nat) (xs : List Int) (w : World) (h0 : a0 = none → len = 0 ∧ cap = 0) (hl : xs.length = len) (hbd : ∀ j, 0 ≤ xs.getD j 0 ∧ xs.getD j 0 ≤ 255) (hs : Seg .u8 w a0 xs) (hml : len ≤ 9223372036854775807) :
    Calls Try.prog 4 #[.slice a0 len cap] w fun e w' => e = .returned (.bool true) ∧ Below w.heap.size w w' := by
  by_cases h20 : len ≤ 1048576
  · by_cases h16 : len ≤ 65536
    · have HN : Hid (xs.length = len) := hl
      have HB : Hid (∀ j, 0 ≤ xs.getD j 0 ∧ xs.getD j 0 ≤ 255) := hbd
      have HS : Hid (Seg .u8 w a0 xs) := hs
      have H0 : Hid (a0 = none → len = 0 ∧ cap = 0) := h0
      clear hl hbd hs h0
      go_enter Try.func4, Try.ntmps4
      go_wp2_with (go_at_call 11; refine (bytes_yes a0 len cap _ h20).mono ?_; rintro e w' ⟨rfl, rfl⟩)
      go_loopg [4, 17] len (fun g s4 s17 wx => w = wx ∧ ∃ k : Nat, k ≤ len ∧ g = len - k ∧ s17 = .int .i64 k ∧ Hid (∀ j, j < k → xs.getD j 0 ≤ 15))
      case atStart => exact ⟨rfl, 0, Nat.zero_le _, rfl, rfl, fun j h => by omega⟩
      case round =>
        obtain ⟨rfl, k, hk, rfl, rfl, H15⟩ := hrel
        by_cases hkn : k < len
        · obtain ⟨b, off, rfl, hb, hc⟩ : ∃ b off, a0 = some ⟨b, off, none⟩ ∧ b < w.heap.size ∧ ∀ j, j < xs.length → w.cell? ⟨b, off + j, none⟩ = some (.int .u8 (xs.getD j 0)) := by
            rcases HS.out with h | h
            · have := HN.out; rw [h] at this; simp at this; omega
            · exact h
          have hkz : (k : Int) < (len : Int) := by omega
          have hck := hc k (by rw [HN.out]; exact hkn)
          clear hc
          obtain ⟨x, hx⟩ : ∃ x, xs.getD k 0 = x := ⟨_, rfl⟩
          have hx0 := HB.out k
          rw [hx] at hck hx0
          have HX : Hid (xs.getD k 0 = x) := hx
          clear hx
          by_cases hx15 : x ≤ 15
          · go_wp2
            go_roundg (len - (k + 1))
            case measure => omega
            case rel =>
              refine ⟨rfl, k + 1, by omega, rfl, by go_num, ?_⟩
              intro j hj
              by_cases hjk : j = k
              · rw [hjk, HX.out]; exact hx15
              · exact H15.out j (by omega)
          · go_wp2
            go_ret
            exact ⟨rfl, Below.refl _ _⟩
        · have hkz : ¬ ((k : Int) < (len : Int)) := by omega
          have HA : Hid (∀ x ∈ xs, 0 ≤ x ∧ x ≤ 15) := by
            intro x hx
            obtain ⟨j, hj, rfl⟩ := List.getElem_of_mem hx
            have h1 := HB.out j
            have h2 := H15.out j (by rw [HN.out] at hj; omega)
            simp [List.getD, hj] at h1 h2
            exact ⟨h1.1, h2⟩
          clear H15
          go_wp2_with fail
          refine (clone_any a0 len cap xs _ H0.out HN.out h20 HS.out).mono ?_
          rintro e w1 ⟨a1, c1, rfl, hb1, hs1⟩
          have HS1 : Hid (Seg .u8 w1 a1 xs) := hs1
          clear hs1
          go_wp2_with fail
          refine (zzrun_any a1 len c1 xs HN.out h16 HB.out _ HS1.out).mono ?_
          rintro e w2 ⟨v, rfl, hb2, hlt2, hown2⟩
          obtain ⟨ao, cp, rfl⟩ := own_shape hown2
          have hlen2 : (Pl.enc xs).length ≤ len := by have := Pl.enc_len xs; rw [HN.out] at this; exact this
          have HS2 : Hid (Seg .u16 w2 ao (Pl.enc xs)) := by
            by_cases hz : 0 < (Pl.enc xs).length
            · obtain ⟨g, cp', hv, hg1, hg2, hg3⟩ := own_cells hown2 hz
              simp only [Value.slice.injEq, true_and] at hv
              exact .inr ⟨g, 0, hv.1, hg2, fun j hj => by simpa using hg3 j hj⟩
            · exact .inl (List.eq_nil_of_length_eq_zero (by omega))
          have HD : Hid (Pl.dec len (Pl.enc xs) [] = some xs) := by have := Pl.dec_enc xs HA.out; rw [HN.out] at this; exact this
          have hs1 := hb1.size
          have HB12 : Hid (Below w.heap.size w w2) := hb1.trans (hb2.mono hs1)
          have HS3 : Hid (Seg .u8 w2 a1 xs) := HS1.out.carry hb2 (Nat.le_refl _)
          clear hown2 hlt2 hb1 hb2 HS1 hs1
          obtain ⟨hn, hhn⟩ : ∃ hn, (Pl.enc xs).length = hn := ⟨_, rfl⟩
          rw [hhn] at hlen2 ⊢
          have HHN : Hid ((Pl.enc xs).length = hn) := hhn
          clear hhn
          go_wp2_with fail
          refine (dec_any ao hn cp len (Pl.enc xs) xs _ HHN.out (by omega) h16 (Pl.enc_bd xs HB.out) HS2.out HD.out).mono ?_
          rintro e w3 ⟨v3, rfl, hb3, hown3⟩
          obtain ⟨ao3, cp3, rfl⟩ := own_shape hown3
          rw [HN.out] at hown3 ⊢
          have HO3 : Hid (w3.ownsRow w2.heap.size 5 1 (.slice ao3 len cp3) len (xs.map (Value.int .u8))) := hown3
          have HS4 : Hid (Seg .u8 w3 a1 xs) := HS3.out.carry hb3 (Nat.le_refl _)
          have HB13 : Hid (Below w.heap.size w w3) := HB12.out.trans (hb3.mono HB12.out.size)
          clear hown3 hb3 HS3 HS2 HD HB12
          go_wp2_with fail
          clear hk hkn hlen2 HHN HA H0 HS
          go_loopg [8, 51] len (fun g s8 s51 wx => ∃ nq k : Nat, wx = w3.drewN nq ∧ k ≤ len ∧ g = len - k ∧ s51 = .int .i64 k)
          case atStart => exact ⟨0, 0, rfl, Nat.zero_le _, rfl, rfl⟩
          case round =>
            obtain ⟨nq, k, rfl, hk, rfl, rfl⟩ := hrel
            by_cases hkn : k < len
            · obtain ⟨b, off, rfl, hb, hc⟩ : ∃ b off, a1 = some ⟨b, off, none⟩ ∧ b < w3.heap.size ∧ ∀ j, j < xs.length → w3.cell? ⟨b, off + j, none⟩ = some (.int .u8 (xs.getD j 0)) := by
                rcases HS4.out with h | h
                · have := HN.out; rw [h] at this; simp at this; omega
                · exact h
              obtain ⟨g, cp', hv, hg1, hg2, hg3⟩ := own_cells HO3.out (by omega)
              simp only [Value.slice.injEq, true_and] at hv
              obtain ⟨rfl, rfl⟩ := hv
              have hkz : (k : Int) < (len : Int) := by omega
              have hk0 : (0 : Int) ≤ (k : Int) := by omega
              have hck := hc k (by rw [HN.out]; exact hkn)
              have hcg := hg3 k hkn
              obtain ⟨x, hx⟩ : ∃ x, xs.getD k 0 = x := ⟨_, rfl⟩
              rw [hx] at hck hcg
              clear hc hg3 hx
              go_wp2
              go_quiet (fail)
              go_wp2
              go_roundg (len - (k + 1))
              case measure => omega
              case rel => exact ⟨_, k + 1, rfl, by omega, rfl, by go_num⟩
            · have hkz : ¬ ((k : Int) < (len : Int)) := by omega
              go_wp2
              go_ret
              exact ⟨rfl, below_drewN HB13.out _⟩
    · have hz : (65536 : Int) < (len : Int) := by omega
      go_enter Try.func4, Try.ntmps4
      go_wp2_with (go_at_call 11; refine (bytes_yes a0 len cap _ h20).mono ?_; rintro e w' ⟨rfl, rfl⟩)
      go_ret
      exact ⟨rfl, Below.refl _ _⟩
  · go_enter Try.func4, Try.ntmps4
    go_wp2_with (go_at_call 11; refine (bytes_no a0 len cap _ (by omega)).mono ?_; rintro e w' ⟨rfl, rfl⟩)
    go_ret
    exact ⟨rfl, Below.refl _ _⟩
end Go.Proofs.Qxb6603850a
