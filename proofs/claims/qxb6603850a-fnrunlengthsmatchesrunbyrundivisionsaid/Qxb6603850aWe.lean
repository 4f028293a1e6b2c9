import Derived.Test.Qxb6603850aWb
namespace Go.Proofs.Qxb6603850a
open Go.RowKit

set_option maxHeartbeats 4000000 in
set_option maxRecDepth 1000000 in
theorem dec_any (ha : Option Addr) (hl hcap lim : Nat) (hs r : List Int) (w : World) (hlen : hs.length = hl) (hl2 : hl ≤ 65536) (hlim : lim ≤ 65536) (hbd : ∀ j, 0 ≤ hs.getD j 0 ∧ hs.getD j 0 < 65536) (hseg : Seg .u16 w ha hs) (hdec : Pl.dec lim hs [] = some r) :
    Calls Try.prog 12 #[.slice ha hl hcap, .int .i64 lim] w fun e w' => ∃ v, e = .returned (.tuple #[v, .bool true]) ∧ Below w.heap.size w w' ∧ w'.ownsRow w.heap.size 5 1 v r.length (r.map (Value.int .u8)) := by
  have HN : Hid (hs.length = hl) := hlen
  have HB : Hid (∀ j, 0 ≤ hs.getD j 0 ∧ hs.getD j 0 < 65536) := hbd
  have HS : Hid (Seg .u16 w ha hs) := hseg
  have HD : Hid (Pl.dec lim hs [] = some r) := hdec
  clear hlen hbd hseg hdec
  obtain ⟨i0, hi, hz0, hz1, hz2⟩ := info_parts Try.info5
  go_enter Try.func12, Try.ntmps12
  go_wp2_with (at_make; refine wpList_make_own _ rfl _ _ 22 rfl w.heap.size 5 i0 (.int .u8 0) 1 Try.underlying22 hi hz0 hz1 _ _ _ lim rfl rfl rfl (by rw [hz2]; omega) (by unfold maxLen; omega) (Nat.le_refl _) ?_)
  intro w1 hown hgrow
  have hb1 : Below w.heap.size w w1 := (Below.refl _ _).grown hgrow (Nat.le_refl _) (fun k h => by cases h)
  clear hgrow
  go_wp2_with fail
  go_loopg [6, 18] hl (fun g s6 s18 wr => ∃ (k : Nat) (out : List Int), k ≤ hl ∧ g = hl - k ∧ s18 = .int .i64 k ∧ out.length ≤ lim ∧ wr.ownsRow w.heap.size 5 1 s6 out.length (out.map (Value.int .u8)) ∧ Below w.heap.size w wr ∧ Hid (Pl.dec lim (hs.drop k) out = some r))
  case atStart => exact ⟨0, [], Nat.zero_le _, rfl, rfl, Nat.zero_le _, hown, hb1, HD⟩
  case round =>
    clear hown hb1 HD
    obtain ⟨k, out, hk, rfl, rfl, hol, hown, hbel, HE⟩ := hrel
    obtain ⟨ao, cp, rfl⟩ := own_shape hown
    by_cases hkn : k < hl
    · obtain ⟨b, off, rfl, hb, hc⟩ : ∃ b off, ha = some ⟨b, off, none⟩ ∧ b < w.heap.size ∧ ∀ j, j < hs.length → w.cell? ⟨b, off + j, none⟩ = some (.int .u16 (hs.getD j 0)) := by
        rcases HS.out with h | h
        · have := HN.out; rw [h] at this; simp at this; omega
        · exact h
      have hkz : (k : Int) < (hl : Int) := by omega
      have hck := (hbel.cell (p := ⟨b, off + k, none⟩) hb).trans (hc k (by rw [HN.out]; exact hkn))
      clear hc
      obtain ⟨s, hsx⟩ : ∃ s, hs.getD k 0 = s := ⟨_, rfl⟩
      have hs0 := HB.out k
      rw [hsx] at hck hs0
      have hE := HE.out
      rw [Pl.drop_at hs k (by rw [HN.out]; exact hkn), hsx] at hE
      obtain ⟨c, x, hcv, hcl, hrest⟩ := Pl.dec_uncons hE
      have HR : Hid (Pl.dec lim (hs.drop (k + 1)) (out ++ List.replicate c x) = some r) := hrest
      have HC : Hid _ := Pl.cv_cases hs0.1 hcv
      clear hrest hcv hE HE hsx
      have hand := and31 s hs0.1 hs0.2
      have hd0 : 0 ≤ s / 32 := by omega
      have hd1 : s / 32 < 2048 := by omega
      obtain ⟨y, hy⟩ : ∃ y, s % 32 = y := ⟨_, rfl⟩
      have hy0 : 0 ≤ y := by omega
      have hy1 : y < 32 := by omega
      rw [hy] at hand HC
      clear hy
      obtain ⟨e, he⟩ : ∃ e, s / 32 = e := ⟨_, rfl⟩
      rw [he] at hd0 hd1 HC
      go_upto_block 2 with fail
      go_cut [9, 10, 11, 12] (fun s9 s10 s11 s12 wx => wr = wx ∧ s11 = .int .i64 c ∧ s12 = .int .u8 x)
      case first =>
        rcases HC.out with ⟨h1, h2, h3, h4⟩ | ⟨h1, h2, h3, h4, h5⟩ | ⟨h1, h2, h3, h4⟩ | ⟨h1, h2, h3, h4⟩
        · have h2' : e ≤ 0 := by omega
          have H3 : Hid (c = 1 ∧ x = y) := ⟨h3, h4⟩
          clear h2 h3 h4 HC
          go_wp2
          go_meet
          exact ⟨rfl, by rw [H3.out.1]; rfl, by rw [H3.out.2]⟩
        · have h1' : 16 ≤ y := by omega
          have h1'' : y ≤ 16 := by omega
          have H3 : Hid ((c : Int) = 3 + e ∧ x = out.getD (out.length - 1) 0) := ⟨h4, by rw [h5]; exact Pl.getLastD_at out h3⟩
          have hop : 0 < out.length := List.length_pos_iff.2 h3
          obtain ⟨g, cp2, hv, hg1, hg2, hg3⟩ := own_cells hown hop
          simp only [Value.slice.injEq, true_and] at hv
          obtain ⟨rfl, rfl⟩ := hv
          have hcell := hg3 (out.length - 1) (by omega)
          rw [← H3.out.2] at hcell
          have hoz : ((out.length : Int) == 0) = false := by simp; omega
          have hez : decide ((3 : Int) < e) = false := decide_eq_false (by omega)
          clear h1 h3 h4 h5 hg3 HC
          go_wp2
          go_meet
          exact ⟨rfl, by rw [H3.out.1], rfl⟩
        · have h1' : 17 ≤ y := by omega
          have h1'' : y ≤ 17 := by omega
          have H3 : Hid ((c : Int) = 3 + e ∧ x = 0) := ⟨h3, h4⟩
          clear h1 h3 h4 HC
          go_wp2
          go_meet
          exact ⟨rfl, by rw [H3.out.1], by rw [H3.out.2]⟩
        · have h1' : 18 ≤ y := by omega
          have h1'' : y ≤ 18 := by omega
          have H3 : Hid ((c : Int) = 11 + e ∧ x = 0) := ⟨h3, h4⟩
          clear h1 h3 h4 HC
          go_wp2
          go_meet
          exact ⟨rfl, by rw [H3.out.1], by rw [H3.out.2]⟩
      case rest =>
        obtain ⟨rfl, rfl, rfl⟩ := hcut
        clear hck HC
        have hcz : ¬ ((lim : Int) - (out.length : Int) < (c : Int)) := by omega
        go_wp2_with fail
        go_loopg [6, 13] c (fun g s6 s13 wx => ∃ (i : Nat), i ≤ c ∧ g = c - i ∧ s13 = .int .i64 i ∧ wx.ownsRow w.heap.size 5 1 s6 (out.length + i) ((out ++ List.replicate i x).map (Value.int .u8)) ∧ Below w.heap.size w wx)
        case atStart => exact ⟨0, Nat.zero_le _, rfl, rfl, by simpa using hown, hbel⟩
        case round =>
          clear hown hbel
          obtain ⟨i, hic, rfl, rfl, hown, hbel⟩ := hrel
          by_cases hilt : i < c
          · have hy : (i : Int) < (c : Int) := by omega
            go_wp2_with (at_builtin; refine wpList_append_own _ rfl (.tmp 78) (.tmp 80) 22 rfl w.heap.size 5 i0 (.int .u8 0) 1 1 Try.underlying22 hi hz0 hz1 hz2 rfl (by decide) _ (out.length + i) _ rfl (hown.alloc _) ⟨wr.heap.size, 0, none⟩ 1 1 [.int .u8 x] rfl rfl (cell_one_new _ _ _) (ints_oneCell .u8 [x]) (by unfold maxLen; omega) (by omega) (by have := hbel.size; simp; omega) ?_)
            intro v2 w2 hown2 hgrow2 _
            have hb2 : Below w.heap.size w w2 := (hbel.alloc hbel.size _).grown hgrow2 (by have := hbel.size; simp; omega) (fun k e => (hown.lt k e).1)
            have ho2 : w2.ownsRow w.heap.size 5 1 v2 (out.length + (i + 1)) ((out ++ List.replicate (i + 1) x).map (Value.int .u8)) := by
              simpa [List.replicate_succ', Nat.add_assoc] using hown2
            clear hown hbel hown2 hgrow2
            go_wp2
            go_roundg (c - (i + 1))
            case measure => omega
            case rel => exact ⟨i + 1, by omega, rfl, by go_num, ho2, hb2⟩
          · have hy : ¬ ((i : Int) < (c : Int)) := by omega
            have hic2 : i = c := by omega
            go_wp2
            go_roundg (hl - (k + 1))
            case measure => omega
            case rel =>
              rw [hic2] at hown
              exact ⟨k + 1, out ++ List.replicate c x, by omega, rfl, by go_num, by simp; omega, by simpa using hown, hbel, HR⟩
    · have hkz : ¬ ((k : Int) < (hl : Int)) := by omega
      have hE := HE.out
      rw [List.drop_eq_nil_of_le (by rw [HN.out]; omega)] at hE
      have hE2 : out = r := by simpa [Pl.dec] using hE
      go_wp2
      go_ret2
      exact ⟨_, rfl, hbel, by rw [← hE2]; exact hown⟩
end Go.Proofs.Qxb6603850a
