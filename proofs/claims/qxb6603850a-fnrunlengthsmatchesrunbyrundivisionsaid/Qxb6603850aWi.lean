import Derived.Test.Qxb6603850aWh
namespace Go.Proofs.Qxb6603850a
open Go.RowKit

theorem bytes3_yes (a : Option Addr) (len cap : Nat) (w : World) (h : len ≤ 1048576) : Calls Try.prog 6 #[.slice a len cap] w fun e w' => e = .returned (.bool true) ∧ w = w' := by
  go_enter Try.func6, Try.ntmps6
  go_wp2
  go_ret
  exact ⟨rfl, rfl⟩

theorem bytes3_no (a : Option Addr) (len cap : Nat) (w : World) (h : 1048576 < len) : Calls Try.prog 6 #[.slice a len cap] w fun e w' => e = .returned (.bool false) ∧ w = w' := by
  go_enter Try.func6, Try.ntmps6
  go_wp2
  go_ret
  exact ⟨rfl, rfl⟩

theorem seg_own {w : World} {B : Nat} {ao : Option Addr} {n cp : Nat} {L : List Int} (h : w.ownsRow B 43 1 (.slice ao n cp) n (L.map (Value.int .u16))) (hn : L.length = n) : Seg .u16 w ao L := by
  by_cases hz : 0 < n
  · obtain ⟨g, cp', hv, hg1, hg2, hg3⟩ := own_cells h hz
    simp only [Value.slice.injEq, true_and] at hv
    exact .inr ⟨g, 0, hv.1, hg2, fun j hj => by simpa using hg3 j (by omega)⟩
  · exact .inl (List.eq_nil_of_length_eq_zero (by omega))

set_option maxHeartbeats 1000000 in
set_option maxRecDepth 1000000 in
theorem law3 (a0 : Option Addr) (len cap : Nat) (xs : List Int) (w : World) (h0 : a0 = none → len = 0 ∧ cap = 0) (hl : xs.length = len) (hbd : ∀ j, 0 ≤ xs.getD j 0 ∧ xs.getD j 0 ≤ 255) (hs : Seg .u8 w a0 xs) (hml : len ≤ 9223372036854775807) :
    Calls Try.prog 3 #[.slice a0 len cap] w fun e w' => e = .returned (.bool true) ∧ Below w.heap.size w w' := by
  by_cases h20 : len ≤ 1048576
  · by_cases h16 : len ≤ 65536
    · have HN : Hid (xs.length = len) := hl
      have HB : Hid (∀ j, 0 ≤ xs.getD j 0 ∧ xs.getD j 0 ≤ 255) := hbd
      have HS : Hid (Seg .u8 w a0 xs) := hs
      have H0 : Hid (a0 = none → len = 0 ∧ cap = 0) := h0
      clear hl hbd hs h0
      go_enter Try.func3, Try.ntmps3
      go_wp2_with (go_at_call 6; refine (bytes3_yes a0 len cap _ h20).mono ?_; rintro e w' ⟨rfl, rfl⟩)
      refine (clone_any a0 len cap xs _ H0.out HN.out h20 HS.out).mono ?_
      rintro e w1 ⟨a1, c1, rfl, hb1, hs1⟩
      have HS1 : Hid (Seg .u8 w1 a1 xs) := hs1
      clear hs1
      go_wp2_with fail
      refine (zzrun_any a1 len c1 xs HN.out h16 HB.out _ HS1.out).mono ?_
      rintro e w2 ⟨v, rfl, hb2, hlt2, hown2⟩
      obtain ⟨ao, cp, rfl⟩ := own_shape hown2
      have HS2 : Hid (Seg .u16 w2 ao (Pl.enc xs)) := seg_own hown2 rfl
      have HB12 : Hid (Below w.heap.size w w2) := hb1.trans (hb2.mono hb1.size)
      have HS3 : Hid (Seg .u8 w2 a1 xs) := HS1.out.carry hb2 (Nat.le_refl _)
      obtain ⟨hn, hhn⟩ : ∃ hn, (Pl.enc xs).length = hn := ⟨_, rfl⟩
      rw [hhn]
      have HHN : Hid ((Pl.enc xs).length = hn) := hhn
      have hnb : hn ≤ 1048576 := by have := Pl.enc_len xs; rw [HN.out] at this; omega
      clear hown2 hlt2 hb1 hb2 HS1 hhn
      go_wp2_with fail
      refine (model_any a1 len c1 xs HN.out h16 HB.out _ HS3.out).mono ?_
      rintro e w3 ⟨v3, rfl, L, HL, hown3, hb3⟩
      have hL2 : L.length = hn := by rw [HL.out]; exact HHN.out
      rw [hL2] at hown3
      obtain ⟨ao3, cp3, rfl⟩ := own_shape hown3
      have HS4 : Hid (Seg .u16 w3 ao3 (Pl.enc xs)) := by rw [← HL.out]; exact seg_own hown3 hL2
      have HS5 : Hid (Seg .u16 w3 ao (Pl.enc xs)) := HS2.out.carry hb3 (Nat.le_refl _)
      have HB13 : Hid (Below w.heap.size w w3) := HB12.out.trans (hb3.mono HB12.out.size)
      clear hown3 hb3 HS2 HS3 HB12 hL2 HL
      go_wp2_with fail
      refine (equal_any ao ao3 hn cp cp3 (Pl.enc xs) _ HHN.out hnb HS5.out HS4.out).mono ?_
      rintro e w4 ⟨rfl, q, rfl⟩
      go_wp2
      go_ret
      exact ⟨rfl, below_drewN HB13.out _⟩
    · have hz : (65536 : Int) < (len : Int) := by omega
      go_enter Try.func3, Try.ntmps3
      go_wp2_with (go_at_call 6; refine (bytes3_yes a0 len cap _ h20).mono ?_; rintro e w' ⟨rfl, rfl⟩)
      go_ret
      exact ⟨rfl, Below.refl _ _⟩
  · go_enter Try.func3, Try.ntmps3
    go_wp2_with (go_at_call 6; refine (bytes3_no a0 len cap _ (by omega)).mono ?_; rintro e w' ⟨rfl, rfl⟩)
    go_ret
    exact ⟨rfl, Below.refl _ _⟩
end Go.Proofs.Qxb6603850a
