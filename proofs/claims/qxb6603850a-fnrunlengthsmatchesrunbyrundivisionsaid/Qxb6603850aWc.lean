import Derived.Test.Qxb6603850aWb
namespace Go.Proofs.Qxb6603850a
open Go.RowKit

set_option maxHeartbeats 4000000 in
set_option maxRecDepth 1000000 in
theorem run_any (w0 : World) (D : Nat) (hD : w0.heap.size ≤ D) (sa : Option Addr) (n cap : Nat) (xs : List Int) (hn : xs.length = n) (hm : n ≤ 65536) (hbd : ∀ j, 0 ≤ xs.getD j 0 ∧ xs.getD j 0 ≤ 255) (hs : Seg .u8 w0 sa xs)
    (w : World) (hd : Dyn w0 D (.slice sa n cap) w (.slice none 0 0) []) :
    Calls Try.prog 19 #[.pointer (some ⟨D, 0, none⟩)] w fun e w' => e = .returned (.tuple #[]) ∧ ∃ v, Dyn w0 D (.slice sa n cap) w' v (Pl.enc xs) := by
  have HN : Hid (xs.length = n) := hn
  have HB : Hid (∀ j, 0 ≤ xs.getD j 0 ∧ xs.getD j 0 ≤ 255) := hbd
  have HS : Hid (Seg .u8 w0 sa xs) := hs
  clear hn hbd hs
  have hd1 := hd.again
  obtain ⟨i0, hi, hz0, hz1, hz2⟩ := info_parts Try.info43
  obtain ⟨h9, f9, h12, hown, hbel, hlt⟩ := hd
  go_enter Try.func19, Try.ntmps19
  go_wp2
  clear h9 f9 h12 hown hbel hlt
  go_loopg [2] n (fun g s2 wr => ∃ (k : Nat) (v : Value) (H : List Int), k ≤ n ∧ g = n - k ∧ s2 = .int .i64 k ∧ Dyn w0 D (.slice sa n cap) wr v H ∧ Hid (H ++ Pl.enc (xs.drop k) = Pl.enc xs))
  case atStart => exact ⟨0, _, [], Nat.zero_le _, rfl, rfl, hd1, rfl⟩
  case round =>
    clear hd1
    obtain ⟨k, v, H, hk, rfl, rfl, hd, HE⟩ := hrel
    have h9 := hd.hdr; have f9 := hd.hfz; have h12 := hd.seq
    by_cases hkn : k < n
    · obtain ⟨b, off, rfl, hb, hc⟩ : ∃ b off, sa = some ⟨b, off, none⟩ ∧ b < wr.heap.size ∧ ∀ j, j < xs.length → wr.cell? ⟨b, off + j, none⟩ = some (.int .u8 (xs.getD j 0)) := by
        rcases HS.out.carry hd.bel hD with h | h
        · have := HN.out; rw [h] at this; simp at this; omega
        · exact h
      have HC : Hid (∀ j, j < n → wr.cell? ⟨b, off + j, none⟩ = some (.int .u8 (xs.getD j 0))) := by rw [← HN.out]; exact hc
      clear hc
      have hkz : (k : Int) < (n : Int) := by omega
      have hck := HC.out k hkn
      obtain ⟨x, hx⟩ : ∃ x, xs.getD k 0 = x := ⟨_, rfl⟩
      have hx0 := HB.out k
      rw [hx] at hck hx0
      have HX : Hid (xs.getD k 0 = x) := hx
      clear hx
      go_upto_block 2 with fail
      clear hck
      have HE1 : Hid (H ++ Pl.encA x 1 (xs.drop (k + 1)) = Pl.enc xs) := by
        have := HE.out
        rw [Pl.enc_at xs k (by rw [HN.out]; exact hkn), HX.out] at this
        exact this
      clear HE
      go_cut [4] (fun s4 wx => wr = wx ∧ ∃ r : Nat, 1 ≤ r ∧ k + r ≤ n ∧ s4 = .int .i64 r ∧ Hid (H ++ (Pl.run x r ++ Pl.enc (xs.drop (k + r))) = Pl.enc xs))
      case first =>
        go_wp2_with fail
        go_loopg [4] (n - 1) (fun g s4 wx => wr = wx ∧ ∃ r : Nat, 1 ≤ r ∧ k + r ≤ n ∧ g = n - r ∧ s4 = .int .i64 r ∧ Hid (H ++ Pl.encA x r (xs.drop (k + r)) = Pl.enc xs))
        case atStart => exact ⟨rfl, 1, by omega, by omega, rfl, rfl, HE1⟩
        case round =>
          clear HE1
          obtain ⟨rfl, r, hr1, hr2, rfl, rfl, HE⟩ := hrel
          by_cases hrn : k + r < n
          · have hrz : (k : Int) + (r : Int) < (n : Int) := by omega
            have hcr := HC.out (k + r) hrn
            obtain ⟨y, hy⟩ : ∃ y, xs.getD (k + r) 0 = y := ⟨_, rfl⟩
            have hy0 := HB.out (k + r)
            rw [hy] at hcr hy0
            have HY : Hid (xs.getD (k + r) 0 = y) := hy
            clear hy
            by_cases hyx : y = x
            · subst hyx
              go_wp2
              go_roundg (n - (r + 1))
              case measure => omega
              case rel => exact ⟨rfl, r + 1, by omega, by omega, rfl, by go_num, by rw [Pl.encA_more xs y r (k + r) (by rw [HN.out]; exact hrn) HY.out] at HE; exact HE⟩
            · have hyb : (y == x) = false := by simpa using hyx
              have HYX : Hid (y ≠ x) := hyx
              clear hyx
              go_wp2
              go_meet
              exact ⟨rfl, r, hr1, hr2, rfl, by rw [Pl.encA_stop xs x r (k + r) (fun _ => by rw [HY.out]; exact HYX.out)] at HE; exact HE⟩
          · have hrz : ¬ ((k : Int) + (r : Int) < (n : Int)) := by omega
            go_wp2
            go_meet
            exact ⟨rfl, r, hr1, hr2, rfl, by rw [Pl.encA_stop xs x r (k + r) (fun h => by rw [HN.out] at h; omega)] at HE; exact HE⟩
      case rest =>
        clear HE1
        obtain ⟨rfl, r, hr1, hr2, rfl, HE⟩ := hcut
        obtain ⟨T, hT⟩ : ∃ T, Pl.enc (xs.drop (k + r)) = T := ⟨_, rfl⟩
        have HT : Hid (Pl.enc (xs.drop (k + r)) = T) := hT
        have HE1 : Hid (H ++ (Pl.run x r ++ T) = Pl.enc xs) := by rw [← hT]; exact HE
        clear HE hT
        go_upto_if 58 with fail
        go_cut [4, 58] (fun s4 s58 wx => ∃ (m : Nat) (v : Value) (H : List Int), m < 3 ∧ s4 = .int .i64 m ∧ Dyn w0 D (.slice (some ⟨b, off, none⟩) n cap) wx v H ∧ Hid (H ++ (List.replicate m x ++ T) = Pl.enc xs))
        case first =>
          by_cases hx : x = 0
          · subst hx
            go_wp2_with fail
            go_loopg [4] r (fun g s4 wx => ∃ (m : Nat) (v : Value) (H : List Int), m = g ∧ m ≤ r ∧ s4 = .int .i64 m ∧ Dyn w0 D (.slice (some ⟨b, off, none⟩) n cap) wx v H ∧ Hid (H ++ (Pl.zr m ++ T) = Pl.enc xs))
            case atStart => exact ⟨r, v, H, rfl, Nat.le_refl _, rfl, hd, HE1⟩
            case round =>
              clear HE1 hd h9 f9 h12 HC
              obtain ⟨m, v, H, rfl, hmr, rfl, hd, HE⟩ := hrel
              have h9 := hd.hdr; have f9 := hd.hfz; have h12 := hd.seq
              have hHl : H.length ≤ 65536 := by have h1 := Pl.len_of HE.out; have h2 := Pl.enc_len xs; rw [HN.out] at h2; omega
              by_cases hm11 : 11 ≤ m
              · have hy : (11 : Int) ≤ (m : Int) := by omega
                have HE2 : Hid (H ++ ((18 + 32 * ((Pl.zs m : Int) - 11)) :: Pl.zr (m - Pl.zs m) ++ T) = Pl.enc xs) := by rw [← Pl.zr_step m hm11]; exact HE
                clear HE
                by_cases hm138 : m ≤ 138
                · have hy2 : (m : Int) ≤ 138 := by omega
                  have hbit := or32 18 ((m : Int) - 11) (by omega) (by omega) (by omega) (by omega)
                  go_wp2_with (at_builtin; refine wpList_append_own _ rfl (.tmp 80) (.tmp 86) 26 rfl (D + 1) 43 i0 (.int .u16 0) 1 2 Try.underlying26 hi hz0 hz1 hz2 rfl (by decide) v H.length (H.map (Value.int .u16)) rfl (hd.own.alloc _) ⟨wr.heap.size, 0, none⟩ 1 1 [.int .u16 (18 + 32 * ((m : Int) - 11))] rfl rfl (cell_one_new _ _ _) (ints_oneCell .u16 [18 + 32 * ((m : Int) - 11)]) (by unfold maxLen; omega) (by omega) (by have := hd.lt; simp; omega) ?_)
                  intro v2 w1 hown2 hgrow2 _
                  obtain ⟨⟨c9, g9, g, cp, rfl⟩, hd2⟩ := hd.push (18 + 32 * ((m : Int) - 11)) _ hown2 hgrow2
                  clear hown2 hgrow2 h9 f9 h12 hd
                  go_wp2
                  go_roundg 0
                  case measure => omega
                  case rel =>
                    have e : Pl.zs m = m := by unfold Pl.zs; rw [if_pos hm138]
                    have h := HE2.out
                    rw [e, Nat.sub_self] at h
                    exact ⟨0, _, _, rfl, by omega, by go_num, hd2, by simpa [Hid] using h⟩
                · by_cases hm141 : m < 141
                  · have hy2 : (138 : Int) < (m : Int) := by omega
                    have hy3 : (m : Int) < 141 := by omega
                    have hbit := or32 18 (138 - (3 - ((m : Int) - 138)) - 11) (by omega) (by omega) (by omega) (by omega)
                    go_wp2_with (at_builtin; refine wpList_append_own _ rfl (.tmp 80) (.tmp 86) 26 rfl (D + 1) 43 i0 (.int .u16 0) 1 2 Try.underlying26 hi hz0 hz1 hz2 rfl (by decide) v H.length (H.map (Value.int .u16)) rfl (hd.own.alloc _) ⟨wr.heap.size, 0, none⟩ 1 1 [.int .u16 (18 + 32 * (138 - (3 - ((m : Int) - 138)) - 11))] rfl rfl (cell_one_new _ _ _) (ints_oneCell .u16 [18 + 32 * (138 - (3 - ((m : Int) - 138)) - 11)]) (by unfold maxLen; omega) (by omega) (by have := hd.lt; simp; omega) ?_)
                    intro v2 w1 hown2 hgrow2 _
                    obtain ⟨⟨c9, g9, g, cp, rfl⟩, hd2⟩ := hd.push (18 + 32 * (138 - (3 - ((m : Int) - 138)) - 11)) _ hown2 hgrow2
                    clear hown2 hgrow2 h9 f9 h12 hd
                    go_wp2
                    go_roundg 3
                    case measure => omega
                    case rel =>
                      have e : Pl.zs m = m - 3 := by unfold Pl.zs; rw [if_neg hm138, if_pos (by omega)]
                      have h := HE2.out
                      rw [e, show m - (m - 3) = 3 from by omega, show (((m - 3 : Nat) : Int) - 11) = 138 - (3 - ((m : Int) - 138)) - 11 from by omega] at h
                      exact ⟨3, _, _, rfl, by omega, by go_num, hd2, by simpa [Hid] using h⟩
                  · have hy2 : (141 : Int) ≤ (m : Int) := by omega
                    have hbit := or32 18 127 (by omega) (by omega) (by omega) (by omega)
                    go_wp2_with (at_builtin; refine wpList_append_own _ rfl (.tmp 80) (.tmp 86) 26 rfl (D + 1) 43 i0 (.int .u16 0) 1 2 Try.underlying26 hi hz0 hz1 hz2 rfl (by decide) v H.length (H.map (Value.int .u16)) rfl (hd.own.alloc _) ⟨wr.heap.size, 0, none⟩ 1 1 [.int .u16 (18 + 32 * 127)] rfl rfl (cell_one_new _ _ _) (ints_oneCell .u16 [18 + 32 * 127]) (by unfold maxLen; omega) (by omega) (by have := hd.lt; simp; omega) ?_)
                    intro v2 w1 hown2 hgrow2 _
                    obtain ⟨⟨c9, g9, g, cp, rfl⟩, hd2⟩ := hd.push (18 + 32 * 127) _ hown2 hgrow2
                    clear hown2 hgrow2 h9 f9 h12 hd
                    go_wp2
                    go_roundg (m - 138)
                    case measure => omega
                    case rel =>
                      have e : Pl.zs m = 138 := by unfold Pl.zs; rw [if_neg hm138, if_neg (by omega)]
                      have h := HE2.out
                      rw [e] at h
                      exact ⟨m - 138, _, _, rfl, by omega, by go_num, hd2, by simpa [Hid] using h⟩
              · by_cases hm3 : 3 ≤ m
                · have hy1 : (m : Int) < 11 := by omega
                  have hy2 : (3 : Int) ≤ (m : Int) := by omega
                  have hbit := or32 17 ((m : Int) - 3) (by omega) (by omega) (by omega) (by omega)
                  go_wp2_with (at_builtin; refine wpList_append_own _ rfl (.tmp 99) (.tmp 105) 26 rfl (D + 1) 43 i0 (.int .u16 0) 1 2 Try.underlying26 hi hz0 hz1 hz2 rfl (by decide) v H.length (H.map (Value.int .u16)) rfl (hd.own.alloc _) ⟨wr.heap.size, 0, none⟩ 1 1 [.int .u16 (17 + 32 * ((m : Int) - 3))] rfl rfl (cell_one_new _ _ _) (ints_oneCell .u16 [17 + 32 * ((m : Int) - 3)]) (by unfold maxLen; omega) (by omega) (by have := hd.lt; simp; omega) ?_)
                  intro v2 w1 hown2 hgrow2 _
                  obtain ⟨⟨c9, g9, g, cp, rfl⟩, hd2⟩ := hd.push (17 + 32 * ((m : Int) - 3)) _ hown2 hgrow2
                  clear hown2 hgrow2 h9 f9 h12 hd
                  go_wp2
                  go_meet
                  have h := HE.out
                  rw [Pl.zr_mid m hm3 (by omega)] at h
                  exact ⟨0, _, _, by omega, by go_num, hd2, by simpa [Hid] using h⟩
                · have hy1 : (m : Int) < 3 := by omega
                  go_wp2
                  go_meet
                  have h := HE.out
                  rw [Pl.zr_lt3 m (by omega)] at h
                  exact ⟨m, _, _, by omega, rfl, hd, h⟩
          · have hxb : (x == 0) = false := by simpa using hx
            have HX0 : Hid (¬ x = 0) := hx
            clear hx HC
            have hHl : H.length ≤ 65536 := by have h1 := Pl.len_of HE1.out; have h2 := Pl.enc_len xs; rw [HN.out] at h2; omega
            have HE2 : Hid (H ++ [x] ++ (Pl.lr x (r - 1) ++ T) = Pl.enc xs) := by
              have h := HE1.out
              unfold Pl.run at h
              rw [if_neg HX0.out] at h
              simpa [Hid] using h
            clear HE1
            go_wp2_with (at_builtin; refine wpList_append_own _ rfl (.tmp 113) (.tmp 116) 26 rfl (D + 1) 43 i0 (.int .u16 0) 1 2 Try.underlying26 hi hz0 hz1 hz2 rfl (by decide) v H.length (H.map (Value.int .u16)) rfl (hd.own.alloc _) ⟨wr.heap.size, 0, none⟩ 1 1 [.int .u16 (x)] rfl rfl (cell_one_new _ _ _) (ints_oneCell .u16 [x]) (by unfold maxLen; omega) (by omega) (by have := hd.lt; simp; omega) ?_)
            intro v2 w1 hown2 hgrow2 _
            obtain ⟨⟨c9, g9, g, cp, rfl⟩, hd2⟩ := hd.push (x) _ hown2 hgrow2
            clear hown2 hgrow2 h9 f9 h12 hd
            go_wp2_with fail
            go_loopg [4] (r - 1) (fun g s4 wx => ∃ (m : Nat) (v : Value) (H : List Int), m = g ∧ m ≤ r ∧ s4 = .int .i64 m ∧ Dyn w0 D (.slice (some ⟨b, off, none⟩) n cap) wx v H ∧ Hid (H ++ (Pl.lr x m ++ T) = Pl.enc xs))
            case atStart => exact ⟨r - 1, _, _, rfl, by omega, by go_num, hd2, HE2⟩
            case round =>
              clear HE2 hd2 c9 g9
              obtain ⟨m, v, H, rfl, hmr, rfl, hd, HE⟩ := hrel
              have h9 := hd.hdr; have f9 := hd.hfz; have h12 := hd.seq
              have hHl : H.length ≤ 65536 := by have h1 := Pl.len_of HE.out; have h2 := Pl.enc_len xs; rw [HN.out] at h2; omega
              by_cases hm3 : 3 ≤ m
              · have hy2 : (3 : Int) ≤ (m : Int) := by omega
                have HE2 : Hid (H ++ ((16 + 32 * (((min m 6 : Nat) : Int) - 3)) :: Pl.lr x (m - min m 6) ++ T) = Pl.enc xs) := by rw [← Pl.lr_step x m hm3]; exact HE
                clear HE
                by_cases hm6 : m ≤ 6
                · have hy3 : (m : Int) ≤ 6 := by omega
                  have hbit := or32 16 ((m : Int) - 3) (by omega) (by omega) (by omega) (by omega)
                  go_wp2_with (at_builtin; refine wpList_append_own _ rfl (.tmp 130) (.tmp 136) 26 rfl (D + 1) 43 i0 (.int .u16 0) 1 2 Try.underlying26 hi hz0 hz1 hz2 rfl (by decide) v H.length (H.map (Value.int .u16)) rfl (hd.own.alloc _) ⟨wr.heap.size, 0, none⟩ 1 1 [.int .u16 (16 + 32 * ((m : Int) - 3))] rfl rfl (cell_one_new _ _ _) (ints_oneCell .u16 [16 + 32 * ((m : Int) - 3)]) (by unfold maxLen; omega) (by omega) (by have := hd.lt; simp; omega) ?_)
                  intro v2 w1 hown2 hgrow2 _
                  obtain ⟨⟨c9, g9, g, cp, rfl⟩, hd2⟩ := hd.push (16 + 32 * ((m : Int) - 3)) _ hown2 hgrow2
                  clear hown2 hgrow2 h9 f9 h12 hd
                  go_wp2
                  go_roundg 0
                  case measure => omega
                  case rel =>
                    have h := HE2.out
                    rw [show min m 6 = m from by omega, Nat.sub_self] at h
                    exact ⟨0, _, _, rfl, by omega, by go_num, hd2, by simpa [Hid] using h⟩
                · have hy3 : (6 : Int) < (m : Int) := by omega
                  have hbit := or32 16 3 (by omega) (by omega) (by omega) (by omega)
                  go_wp2_with (at_builtin; refine wpList_append_own _ rfl (.tmp 130) (.tmp 136) 26 rfl (D + 1) 43 i0 (.int .u16 0) 1 2 Try.underlying26 hi hz0 hz1 hz2 rfl (by decide) v H.length (H.map (Value.int .u16)) rfl (hd.own.alloc _) ⟨wr.heap.size, 0, none⟩ 1 1 [.int .u16 (16 + 32 * 3)] rfl rfl (cell_one_new _ _ _) (ints_oneCell .u16 [16 + 32 * 3]) (by unfold maxLen; omega) (by omega) (by have := hd.lt; simp; omega) ?_)
                  intro v2 w1 hown2 hgrow2 _
                  obtain ⟨⟨c9, g9, g, cp, rfl⟩, hd2⟩ := hd.push (16 + 32 * 3) _ hown2 hgrow2
                  clear hown2 hgrow2 h9 f9 h12 hd
                  go_wp2
                  go_roundg (m - 6)
                  case measure => omega
                  case rel =>
                    have h := HE2.out
                    rw [show min m 6 = 6 from by omega] at h
                    exact ⟨m - 6, _, _, rfl, by omega, by go_num, hd2, by simpa [Hid] using h⟩
              · have hy1 : (m : Int) < 3 := by omega
                go_wp2
                go_meet
                have h := HE.out
                rw [Pl.lr_lt3 x m (by omega)] at h
                exact ⟨m, _, _, by omega, rfl, hd, h⟩
        case rest =>
          clear HE1 HC hd h9 f9 h12
          obtain ⟨m, v, H, hm3, rfl, hd, HE⟩ := hcut
          go_wp2_with fail
          go_loopg [144] m (fun g s wx => ∃ (i : Nat) (v : Value) (H : List Int), i ≤ m ∧ g = m - i ∧ s = .int .i64 i ∧ Dyn w0 D (.slice (some ⟨b, off, none⟩) n cap) wx v H ∧ Hid (H ++ (List.replicate (m - i) x ++ T) = Pl.enc xs))
          case atStart => exact ⟨0, v, H, Nat.zero_le _, rfl, rfl, hd, HE⟩
          case round =>
            clear HE hd
            obtain ⟨i, v, H, him, rfl, rfl, hd, HE⟩ := hrel
            have h9 := hd.hdr; have f9 := hd.hfz; have h12 := hd.seq
            have hHl : H.length ≤ 65536 := by have h1 := Pl.len_of HE.out; have h2 := Pl.enc_len xs; rw [HN.out] at h2; omega
            by_cases hilt : i < m
            · have hy : (i : Int) < (m : Int) := by omega
              go_wp2_with (at_builtin; refine wpList_append_own _ rfl (.tmp 150) (.tmp 153) 26 rfl (D + 1) 43 i0 (.int .u16 0) 1 2 Try.underlying26 hi hz0 hz1 hz2 rfl (by decide) v H.length (H.map (Value.int .u16)) rfl (hd.own.alloc _) ⟨wr.heap.size, 0, none⟩ 1 1 [.int .u16 (x)] rfl rfl (cell_one_new _ _ _) (ints_oneCell .u16 [x]) (by unfold maxLen; omega) (by omega) (by have := hd.lt; simp; omega) ?_)
              intro v2 w1 hown2 hgrow2 _
              obtain ⟨⟨c9, g9, g, cp, rfl⟩, hd2⟩ := hd.push (x) _ hown2 hgrow2
              clear hown2 hgrow2 h9 f9 h12 hd
              go_wp2
              go_roundg (m - (i + 1))
              case measure => omega
              case rel =>
                have h := HE.out
                rw [show m - i = (m - (i + 1)) + 1 from by omega, List.replicate_succ] at h
                exact ⟨i + 1, _, _, by omega, rfl, by go_num, hd2, by simpa [Hid] using h⟩
            · have hy : ¬ ((i : Int) < (m : Int)) := by omega
              go_wp2
              go_roundg (n - (k + r))
              case measure => omega
              case rel =>
                have h := HE.out
                rw [show m - i = 0 from by omega, ← HT.out] at h
                exact ⟨k + r, _, _, by omega, rfl, by go_num, hd, by simpa [Hid] using h⟩
    · have hkz : ¬ ((k : Int) < (n : Int)) := by omega
      go_wp2
      go_end0
      refine ⟨rfl, v, ?_⟩
      have h := HE.out
      rw [List.drop_eq_nil_of_le (by rw [HN.out]; omega)] at h
      rw [show Pl.enc [] = [] from rfl, List.append_nil] at h
      rw [← h]; exact hd
end Go.Proofs.Qxb6603850a
