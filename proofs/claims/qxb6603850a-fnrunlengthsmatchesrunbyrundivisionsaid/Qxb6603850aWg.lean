import Derived.Test.Qxb6603850aWb
import Derived.Deep.QuietTactic
import Derived.BigQuiet
namespace Go.Proofs.Qxb6603850a
open Go.RowKit

theorem i64_or_nat (a b : Nat) (ha : a < 4611686018427387904) (hb : b < 4611686018427387904) : bits .or .i64 (a : Int) (b : Int) = ((a ||| b : Nat) : Int) := by
  have hx : a ||| b < 2 ^ 62 := Nat.or_lt_two_pow (by omega) (by omega)
  show IntKind.i64.wrap ((BitVec.ofInt 64 (a : Int) ||| BitVec.ofInt 64 (b : Int)).toNat : Int) = _
  rw [BitVec.toNat_or, ofInt_u64 a (by omega), ofInt_u64 b (by omega), IntKind.wrap_i64]
  omega

theorem or32i (a q : Int) (ha : 0 ≤ a) (ha' : a < 32) (hq : 0 ≤ q) (hq' : q < 2048) : bits .or .i64 a (q * 32) = a + 32 * q := by
  obtain ⟨A, rfl⟩ := Int.eq_ofNat_of_zero_le ha
  obtain ⟨Q, rfl⟩ := Int.eq_ofNat_of_zero_le hq
  have e : ((Q : Int) * 32) = ((Q * 32 : Nat) : Int) := by omega
  rw [e, i64_or_nat A (Q * 32) (by omega) (by omega)]
  have h := Nat.shiftLeft_add_eq_or_of_lt (show A < 2 ^ 5 by omega) Q
  rw [Nat.shiftLeft_eq, Nat.or_comm] at h
  have h2 : Q * 2 ^ 5 = Q * 32 := by omega
  rw [h2] at h
  omega

theorem sym_any (a q : Int) (ha : 0 ≤ a) (ha' : a < 32) (hq : 0 ≤ q) (hq' : q < 2048) (w : World) :
    Calls Try.prog 24 #[.int .i64 a, .int .i64 q] w fun e w' => e = .returned (.int .u16 (a + 32 * q)) ∧ w = w' := by
  have hb := or32i a q ha ha' hq hq'
  go_enter Try.func24, Try.ntmps24
  go_wp2
  go_ret
  exact ⟨rfl, rfl⟩

/-- What one append makes of an owned row. -/
theorem grew {B : Nat} {w0 w w1 : World} {v v' : Value} {H : List Int} {x : Int} {o : Obj} (hB : B ≤ w.heap.size) (hb0 : Below B w0 w) (hown : w.ownsRow B 43 1 v H.length (H.map (Value.int .u16)))
    (h1 : w1.ownsRow B 43 1 v' (H.length + 1) (H.map (Value.int .u16) ++ [.int .u16 x])) (hg : (w.alloc o).grownBy w1 v.ownBlock) :
    ∃ L : List Int, Hid (L = H ++ [x]) ∧ w1.ownsRow B 43 1 v' L.length (L.map (Value.int .u16)) ∧ Below B w0 w1 ∧ B ≤ w1.heap.size := by
  have hb : Below B w w1 := ((Below.refl B w).alloc hB o).grown hg (by simp; omega) (fun k e => (hown.lt k e).1)
  exact ⟨_, rfl, by simpa using h1, hb0.trans hb, by have := hb.size; omega⟩


theorem zr_parts (n Q R : Nat) (hq : n / 138 = Q) (hr : n % 138 = R) : Pl.zr n = (if R = 1 ∨ R = 2 then
    if Q = 0 then List.replicate R 0 else List.replicate (Q - 1) 4082 ++ [18 + 32 * (124 + (R : Int)), 17]
  else List.replicate Q 4082 ++ (if 11 ≤ R then [18 + 32 * ((R : Int) - 11)] else if 3 ≤ R then [17 + 32 * ((R : Int) - 3)] else [])) := by
  subst hq; subst hr; rfl

theorem sym_at (a q r : Int) (ha : 0 ≤ a) (ha' : a < 32) (hq : 0 ≤ q) (hq' : q < 2048) (h : a + 32 * q = r) (w : World) :
    Calls Try.prog 24 #[.int .i64 a, .int .i64 q] w fun e w' => e = .returned (.int .u16 r) ∧ w = w' := by
  subst h; exact sym_any a q ha ha' hq hq' w

theorem own_to {w : World} {B : Nat} {v : Value} {L M : List Int} (e : L = M) (h : w.ownsRow B 43 1 v L.length (L.map (Value.int .u16))) : w.ownsRow B 43 1 v M.length (M.map (Value.int .u16)) := e ▸ h

set_option maxHeartbeats 2000000 in
set_option maxRecDepth 1000000 in
theorem zero_any (B : Nat) (v : Value) (H : List Int) (n : Nat) (hn : n ≤ 65536) (hH : H.length ≤ 65536) (w : World) (hB : B ≤ w.heap.size) (hown : w.ownsRow B 43 1 v H.length (H.map (Value.int .u16))) :
    Calls Try.prog 20 #[v, .int .i64 n] w fun e w' => ∃ v', e = .returned v' ∧ ∃ L, Hid (L = H ++ Pl.zr n) ∧ w'.ownsRow B 43 1 v' L.length (L.map (Value.int .u16)) ∧ Below B w w' := by
  obtain ⟨i0, hi, hz0, hz1, hz2⟩ := info_parts Try.info43
  obtain ⟨Q, hQ⟩ : ∃ Q, n / 138 = Q := ⟨_, rfl⟩
  obtain ⟨R, hR⟩ : ∃ R, n % 138 = R := ⟨_, rfl⟩
  have HZ : Hid _ := zr_parts n Q R hQ hR
  have hq : (n : Int) / 138 = (Q : Int) := by omega
  have hr : (n : Int) % 138 = (R : Int) := by omega
  have hQ1 : Q ≤ 1000 := by omega
  have hR1 : R < 138 := by omega
  obtain ⟨Z, hZ⟩ : ∃ Z, Pl.zr n = Z := ⟨_, rfl⟩
  rw [hZ] at HZ ⊢
  clear hQ hR hZ
  by_cases hR12 : R = 1 ∨ R = 2
  · rw [if_pos hR12] at HZ
    have hR2 : R ≤ 2 := by omega
    have hee : ((R : Int) == 1) = true ∨ (((R : Int) == 1) = false ∧ ((R : Int) == 2) = true) := by simp; omega
    clear hR12
    by_cases hQ0 : Q = 0
    · rw [if_pos hQ0] at HZ
      have hqz : ((Q : Int) == 0) = true := by simp; omega
      clear hQ0
      rcases hee with e1 | ⟨e1, e2⟩
      all_goals
        go_enter Try.func20, Try.ntmps20
        go_wp2_with fail
        try simp only [hr]
        clear hq hr
        go_loopg [0, 7] (R) (fun g s0 sc wx => ∃ (i : Nat) (L : List Int), i ≤ R ∧ g = R - i ∧ sc = .int .i64 i ∧ Hid (L = H ++ List.replicate i (0)) ∧ wx.ownsRow B 43 1 s0 L.length (L.map (Value.int .u16)) ∧ Below B w wx ∧ B ≤ wx.heap.size)
        case atStart => exact ⟨0, H, Nat.zero_le _, rfl, rfl, (List.append_nil _).symm, hown, (Below.refl _ _), hB⟩
        case round =>
          clear hown hB
          obtain ⟨i, L, hiN, rfl, rfl, HL, hown, hbel, hBx⟩ := hrel
          have hlx : L.length ≤ 131072 := by rw [HL.out]; simp; omega
          by_cases hlt : i < R
          · have hz : (i : Int) < (R : Int) := by omega
            go_wp2_with (at_builtin; refine wpList_append_own _ rfl (.tmp 27) (.tmp 28) 26 rfl B 43 i0 (.int .u16 0) 1 2 Try.underlying26 hi hz0 hz1 hz2 rfl (by decide) _ L.length (L.map (Value.int .u16)) rfl (hown.alloc _) ⟨wr.heap.size, 0, none⟩ 1 1 [.int .u16 (0)] rfl rfl (cell_one_new _ _ _) (ints_oneCell .u16 [0]) (by unfold maxLen; omega) (by omega) (by simp; omega) ?_)
            intro v2 w1 hown2 hgrow2 _
            obtain ⟨L2, HL2, ho, hbb, hBy⟩ := grew hBx hbel hown hown2 hgrow2
            clear hown hbel hown2 hgrow2 hBx hlx
            go_wp2
            go_roundg (R - (i + 1))
            case measure => omega
            case rel => exact ⟨i + 1, L2, by omega, rfl, by go_num, (by rw [HL2.out, HL.out, List.replicate_succ', List.append_assoc] : L2 = _), ho, hbb, hBy⟩
          · have hz : ¬ ((i : Int) < (R : Int)) := by omega
            have HL : Hid (L = H ++ List.replicate (R) (0)) := by rw [show R = i from by omega]; exact HL
            go_wp2
            go_ret
            exact ⟨_, rfl, _, (by rw [HL.out, HZ.out] : _ = H ++ Z), hown, hbel⟩
    · rw [if_neg hQ0] at HZ
      have hqz : ((Q : Int) == 0) = false := by simp; omega
      have hqp : 1 ≤ Q := by omega
      clear hQ0
      rcases hee with e1 | ⟨e1, e2⟩
      all_goals
        go_enter Try.func20, Try.ntmps20
        go_wp2_with fail
        try simp only [hr]
        clear hq hr
        go_loopg [0, 8] (Q - 1) (fun g s0 sc wx => ∃ (i : Nat) (L : List Int), i ≤ Q - 1 ∧ g = Q - 1 - i ∧ sc = .int .i64 i ∧ Hid (L = H ++ List.replicate i (4082)) ∧ wx.ownsRow B 43 1 s0 L.length (L.map (Value.int .u16)) ∧ Below B w wx ∧ B ≤ wx.heap.size)
        case atStart => exact ⟨0, H, Nat.zero_le _, rfl, rfl, (List.append_nil _).symm, hown, (Below.refl _ _), hB⟩
        case round =>
          clear hown hB
          obtain ⟨i, L, hiN, rfl, rfl, HL, hown, hbel, hBx⟩ := hrel
          have hlx : L.length ≤ 131072 := by rw [HL.out]; simp; omega
          by_cases hlt : i < Q - 1
          · have hz : (i : Int) < (Q : Int) - 1 := by omega
            go_wp2_with (first | (go_at_call 24; refine (sym_at (18) (127) (4082) (by omega) (by omega) (by omega) (by omega) (by omega) _).mono ?_; rintro e w9 ⟨rfl, rfl⟩) | (at_builtin; refine wpList_append_own _ rfl (.tmp 37) (.tmp 39) 26 rfl B 43 i0 (.int .u16 0) 1 2 Try.underlying26 hi hz0 hz1 hz2 rfl (by decide) _ L.length (L.map (Value.int .u16)) rfl (hown.alloc _) ⟨wr.heap.size, 0, none⟩ 1 1 [.int .u16 (4082)] rfl rfl (cell_one_new _ _ _) (ints_oneCell .u16 [4082]) (by unfold maxLen; omega) (by omega) (by simp; omega) ?_))
            intro v2 w1 hown2 hgrow2 _
            obtain ⟨L2, HL2, ho, hbb, hBy⟩ := grew hBx hbel hown hown2 hgrow2
            clear hown hbel hown2 hgrow2 hBx hlx
            go_wp2
            go_roundg (Q - 1 - (i + 1))
            case measure => omega
            case rel => exact ⟨i + 1, L2, by omega, rfl, by go_num, (by rw [HL2.out, HL.out, List.replicate_succ', List.append_assoc] : L2 = _), ho, hbb, hBy⟩
          · have hz : ¬ ((i : Int) < (Q : Int) - 1) := by omega
            have HL : Hid (L = H ++ List.replicate (Q - 1) (4082)) := by rw [show Q - 1 = i from by omega]; exact HL
            go_wp2_with (first | (go_at_call 24; refine (sym_at (18) (138 + (R : Int) - 3 - 11) (18 + 32 * (124 + (R : Int))) (by omega) (by omega) (by omega) (by omega) (by omega) _).mono ?_; rintro e w9 ⟨rfl, rfl⟩) | (at_builtin; refine wpList_append_own _ rfl (.tmp 41) (.tmp 47) 26 rfl B 43 i0 (.int .u16 0) 1 2 Try.underlying26 hi hz0 hz1 hz2 rfl (by decide) _ L.length (L.map (Value.int .u16)) rfl (hown.alloc _) ⟨wr.heap.size, 0, none⟩ 1 1 [.int .u16 (18 + 32 * (124 + (R : Int)))] rfl rfl (cell_one_new _ _ _) (ints_oneCell .u16 [18 + 32 * (124 + (R : Int))]) (by unfold maxLen; omega) (by omega) (by simp; omega) ?_))
            intro v4 w4 hown4x hgrow4 _
            obtain ⟨L4, HL4, ho4, hbl4, hB4⟩ := grew hBx hbel hown hown4x hgrow4
            clear hown4x hgrow4
            clear hown hbel hBx
            have hl4 : L4.length ≤ 131073 := by rw [HL4.out]; simp; omega
            go_wp2_with (first | (go_at_call 24; refine (sym_at (17) (0) (17) (by omega) (by omega) (by omega) (by omega) (by omega) _).mono ?_; rintro e w9 ⟨rfl, rfl⟩) | (at_builtin; refine wpList_append_own _ rfl (.tmp 49) (.tmp 51) 26 rfl B 43 i0 (.int .u16 0) 1 2 Try.underlying26 hi hz0 hz1 hz2 rfl (by decide) _ L4.length (L4.map (Value.int .u16)) rfl (ho4.alloc _) ⟨w4.heap.size, 0, none⟩ 1 1 [.int .u16 (17)] rfl rfl (cell_one_new _ _ _) (ints_oneCell .u16 [17]) (by unfold maxLen; omega) (by omega) (by simp; omega) ?_))
            intro v5 w5 hown5x hgrow5 _
            obtain ⟨L5, HL5, ho5, hbl5, hB5⟩ := grew hB4 hbl4 ho4 hown5x hgrow5
            clear hown5x hgrow5
            go_wp2
            go_ret
            exact ⟨_, rfl, _, (by rw [HL5.out, HL4.out, HL.out, HZ.out]; simp : _ = H ++ Z), ho5, hbl5⟩
  · rw [if_neg hR12] at HZ
    have e1 : ((R : Int) == 1) = false := by simp; omega
    have e2 : ((R : Int) == 2) = false := by simp; omega
    clear hR12
    go_enter Try.func20, Try.ntmps20
    go_wp2_with fail
    try simp only [hr]
    clear hq hr
    go_loopg [0, 9] (Q) (fun g s0 sc wx => ∃ (i : Nat) (L : List Int), i ≤ Q ∧ g = Q - i ∧ sc = .int .i64 i ∧ Hid (L = H ++ List.replicate i (4082)) ∧ wx.ownsRow B 43 1 s0 L.length (L.map (Value.int .u16)) ∧ Below B w wx ∧ B ≤ wx.heap.size)
    case atStart => exact ⟨0, H, Nat.zero_le _, rfl, rfl, (List.append_nil _).symm, hown, (Below.refl _ _), hB⟩
    case round =>
      clear hown hB
      obtain ⟨i, L, hiN, rfl, rfl, HL, hown, hbel, hBx⟩ := hrel
      have hlx : L.length ≤ 131072 := by rw [HL.out]; simp; omega
      by_cases hlt : i < Q
      · have hz : (i : Int) < (Q : Int) := by omega
        go_wp2_with (first | (go_at_call 24; refine (sym_at (18) (127) (4082) (by omega) (by omega) (by omega) (by omega) (by omega) _).mono ?_; rintro e w9 ⟨rfl, rfl⟩) | (at_builtin; refine wpList_append_own _ rfl (.tmp 58) (.tmp 60) 26 rfl B 43 i0 (.int .u16 0) 1 2 Try.underlying26 hi hz0 hz1 hz2 rfl (by decide) _ L.length (L.map (Value.int .u16)) rfl (hown.alloc _) ⟨wr.heap.size, 0, none⟩ 1 1 [.int .u16 (4082)] rfl rfl (cell_one_new _ _ _) (ints_oneCell .u16 [4082]) (by unfold maxLen; omega) (by omega) (by simp; omega) ?_))
        intro v2 w1 hown2 hgrow2 _
        obtain ⟨L2, HL2, ho, hbb, hBy⟩ := grew hBx hbel hown hown2 hgrow2
        clear hown hbel hown2 hgrow2 hBx hlx
        go_wp2
        go_roundg (Q - (i + 1))
        case measure => omega
        case rel => exact ⟨i + 1, L2, by omega, rfl, by go_num, (by rw [HL2.out, HL.out, List.replicate_succ', List.append_assoc] : L2 = _), ho, hbb, hBy⟩
      · have hz : ¬ ((i : Int) < (Q : Int)) := by omega
        have HL : Hid (L = H ++ List.replicate (Q) (4082)) := by rw [show Q = i from by omega]; exact HL
        by_cases h11 : 11 ≤ R
        · rw [if_pos h11] at HZ
          have hy2 : (11 : Int) ≤ (R : Int) := by omega
          go_wp2_with (first | (go_at_call 24; refine (sym_at (18) ((R : Int) - 11) (18 + 32 * ((R : Int) - 11)) (by omega) (by omega) (by omega) (by omega) (by omega) _).mono ?_; rintro e w9 ⟨rfl, rfl⟩) | (at_builtin; refine wpList_append_own _ rfl (.tmp 64) (.tmp 68) 26 rfl B 43 i0 (.int .u16 0) 1 2 Try.underlying26 hi hz0 hz1 hz2 rfl (by decide) _ L.length (L.map (Value.int .u16)) rfl (hown.alloc _) ⟨wr.heap.size, 0, none⟩ 1 1 [.int .u16 (18 + 32 * ((R : Int) - 11))] rfl rfl (cell_one_new _ _ _) (ints_oneCell .u16 [18 + 32 * ((R : Int) - 11)]) (by unfold maxLen; omega) (by omega) (by simp; omega) ?_))
          intro v4 w4 hown4x hgrow4 _
          obtain ⟨L4, HL4, ho4, hbl4, hB4⟩ := grew hBx hbel hown hown4x hgrow4
          clear hown4x hgrow4
          go_wp2
          go_ret
          exact ⟨_, rfl, _, (by rw [HL4.out, HL.out, HZ.out]; simp : _ = H ++ Z), ho4, hbl4⟩
        · rw [if_neg h11] at HZ
          have hy2 : ¬ ((11 : Int) ≤ (R : Int)) := by omega
          by_cases h3 : 3 ≤ R
          · rw [if_pos h3] at HZ
            have hy3 : (3 : Int) ≤ (R : Int) := by omega
            go_wp2_with (first | (go_at_call 24; refine (sym_at (17) ((R : Int) - 3) (17 + 32 * ((R : Int) - 3)) (by omega) (by omega) (by omega) (by omega) (by omega) _).mono ?_; rintro e w9 ⟨rfl, rfl⟩) | (at_builtin; refine wpList_append_own _ rfl (.tmp 72) (.tmp 76) 26 rfl B 43 i0 (.int .u16 0) 1 2 Try.underlying26 hi hz0 hz1 hz2 rfl (by decide) _ L.length (L.map (Value.int .u16)) rfl (hown.alloc _) ⟨wr.heap.size, 0, none⟩ 1 1 [.int .u16 (17 + 32 * ((R : Int) - 3))] rfl rfl (cell_one_new _ _ _) (ints_oneCell .u16 [17 + 32 * ((R : Int) - 3)]) (by unfold maxLen; omega) (by omega) (by simp; omega) ?_))
            intro v4 w4 hown4x hgrow4 _
            obtain ⟨L4, HL4, ho4, hbl4, hB4⟩ := grew hBx hbel hown hown4x hgrow4
            clear hown4x hgrow4
            go_wp2
            go_ret
            exact ⟨_, rfl, _, (by rw [HL4.out, HL.out, HZ.out]; simp : _ = H ++ Z), ho4, hbl4⟩
          · rw [if_neg h3] at HZ
            have hy3 : ¬ ((3 : Int) ≤ (R : Int)) := by omega
            go_wp2
            go_ret
            exact ⟨_, rfl, _, (by rw [HL.out, HZ.out]; simp : _ = H ++ Z), hown, hbel⟩

theorem lr_parts (x : Int) (m Q R : Nat) (hq : m / 6 = Q) (hr : m % 6 = R) : Pl.lr x m = List.replicate Q 112 ++ (if 3 ≤ R then [16 + 32 * ((R : Int) - 3)] else List.replicate R x) := by
  subst hq; subst hr; rfl

set_option maxHeartbeats 2000000 in
set_option maxRecDepth 1000000 in
theorem len_any (B : Nat) (v : Value) (H : List Int) (x : Int) (hx0 : 0 ≤ x) (hx1 : x ≤ 255) (n : Nat) (hn1 : 1 ≤ n) (hn : n ≤ 65536) (hH : H.length ≤ 65536) (w : World) (hB : B ≤ w.heap.size) (hown : w.ownsRow B 43 1 v H.length (H.map (Value.int .u16))) :
    Calls Try.prog 21 #[v, .int .u8 x, .int .i64 n] w fun e w' => ∃ v', e = .returned v' ∧ ∃ L, Hid (L = H ++ x :: Pl.lr x (n - 1)) ∧ w'.ownsRow B 43 1 v' L.length (L.map (Value.int .u16)) ∧ Below B w w' := by
  obtain ⟨i0, hi, hz0, hz1, hz2⟩ := info_parts Try.info43
  obtain ⟨Q, hQ⟩ : ∃ Q, (n - 1) / 6 = Q := ⟨_, rfl⟩
  obtain ⟨R, hR⟩ : ∃ R, (n - 1) % 6 = R := ⟨_, rfl⟩
  have HZ : Hid _ := lr_parts x (n - 1) Q R hQ hR
  have hq : ((n : Int) - 1) / 6 = (Q : Int) := by omega
  have hr : ((n : Int) - 1) % 6 = (R : Int) := by omega
  have hQ1 : Q ≤ 20000 := by omega
  have hR1 : R < 6 := by omega
  obtain ⟨Z, hZ⟩ : ∃ Z, Pl.lr x (n - 1) = Z := ⟨_, rfl⟩
  rw [hZ] at HZ ⊢
  clear hQ hR hZ
  have hb0 := Below.refl B w
  go_enter Try.func21, Try.ntmps21
  go_wp2_with (at_builtin; refine wpList_append_own _ rfl (.tmp 11) (.tmp 14) 26 rfl B 43 i0 (.int .u16 0) 1 2 Try.underlying26 hi hz0 hz1 hz2 rfl (by decide) _ H.length (H.map (Value.int .u16)) rfl (hown.alloc _) ⟨w.heap.size, 0, none⟩ 1 1 [.int .u16 (x)] rfl rfl (cell_one_new _ _ _) (ints_oneCell .u16 [x]) (by unfold maxLen; omega) (by omega) (by simp; omega) ?_)
  intro v0 w0 hown0x hgrow0 _
  obtain ⟨L0, HL0, ho0, hbl0, hB0⟩ := grew hB hb0 hown hown0x hgrow0
  clear hown0x hgrow0
  clear hown hB hb0
  have hl0 : L0.length ≤ 65537 := by rw [HL0.out]; simp; omega
  go_wp2_with fail
  try simp only [hq, hr]
  clear hq hr
  go_loopg [0, 9] (Q) (fun g s0 sc wx => ∃ (i : Nat) (L : List Int), i ≤ Q ∧ g = Q - i ∧ sc = .int .i64 i ∧ Hid (L = L0 ++ List.replicate i (112)) ∧ wx.ownsRow B 43 1 s0 L.length (L.map (Value.int .u16)) ∧ Below B w wx ∧ B ≤ wx.heap.size)
  case atStart => exact ⟨0, L0, Nat.zero_le _, rfl, rfl, (List.append_nil _).symm, ho0, hbl0, hB0⟩
  case round =>
    clear ho0 hB0 hbl0
    obtain ⟨i, L, hiN, rfl, rfl, HL, hown, hbel, hBx⟩ := hrel
    have hlx : L.length ≤ 131072 := by rw [HL.out]; simp; omega
    by_cases hlt : i < Q
    · have hz : (i : Int) < (Q : Int) := by omega
      go_wp2_with (first | (go_at_call 24; refine (sym_at (16) (3) (112) (by omega) (by omega) (by omega) (by omega) (by omega) _).mono ?_; rintro e w9 ⟨rfl, rfl⟩) | (at_builtin; refine wpList_append_own _ rfl (.tmp 27) (.tmp 29) 26 rfl B 43 i0 (.int .u16 0) 1 2 Try.underlying26 hi hz0 hz1 hz2 rfl (by decide) _ L.length (L.map (Value.int .u16)) rfl (hown.alloc _) ⟨wr.heap.size, 0, none⟩ 1 1 [.int .u16 (112)] rfl rfl (cell_one_new _ _ _) (ints_oneCell .u16 [112]) (by unfold maxLen; omega) (by omega) (by simp; omega) ?_))
      intro v2 w1 hown2 hgrow2 _
      obtain ⟨L2, HL2, ho, hbb, hBy⟩ := grew hBx hbel hown hown2 hgrow2
      clear hown hbel hown2 hgrow2 hBx hlx
      go_wp2
      go_roundg (Q - (i + 1))
      case measure => omega
      case rel => exact ⟨i + 1, L2, by omega, rfl, by go_num, (by rw [HL2.out, HL.out, List.replicate_succ', List.append_assoc] : L2 = _), ho, hbb, hBy⟩
    · have hz : ¬ ((i : Int) < (Q : Int)) := by omega
      have HL : Hid (L = L0 ++ List.replicate (Q) (112)) := by rw [show Q = i from by omega]; exact HL
      by_cases h3 : 3 ≤ R
      · rw [if_pos h3] at HZ
        have hy3 : (3 : Int) ≤ (R : Int) := by omega
        go_wp2_with (first | (go_at_call 24; refine (sym_at (16) ((R : Int) - 3) (16 + 32 * ((R : Int) - 3)) (by omega) (by omega) (by omega) (by omega) (by omega) _).mono ?_; rintro e w9 ⟨rfl, rfl⟩) | (at_builtin; refine wpList_append_own _ rfl (.tmp 33) (.tmp 37) 26 rfl B 43 i0 (.int .u16 0) 1 2 Try.underlying26 hi hz0 hz1 hz2 rfl (by decide) _ L.length (L.map (Value.int .u16)) rfl (hown.alloc _) ⟨wr.heap.size, 0, none⟩ 1 1 [.int .u16 (16 + 32 * ((R : Int) - 3))] rfl rfl (cell_one_new _ _ _) (ints_oneCell .u16 [16 + 32 * ((R : Int) - 3)]) (by unfold maxLen; omega) (by omega) (by simp; omega) ?_))
        intro v4 w4 hown4x hgrow4 _
        obtain ⟨L4, HL4, ho4, hbl4, hB4⟩ := grew hBx hbel hown hown4x hgrow4
        clear hown4x hgrow4
        go_wp2
        go_ret
        exact ⟨_, rfl, _, (by rw [HL4.out, HL.out, HL0.out, HZ.out]; simp : _ = H ++ x :: Z), ho4, hbl4⟩
      · rw [if_neg h3] at HZ
        have hy3 : ¬ ((3 : Int) ≤ (R : Int)) := by omega
        obtain ⟨M, hM⟩ : ∃ M, M = L := ⟨_, rfl⟩
        rw [← hM] at hown HL hlx
        clear hM
        go_wp2_with fail
        go_loopg [0, 10] (R) (fun g s0 sc wx => ∃ (i : Nat) (L : List Int), i ≤ R ∧ g = R - i ∧ sc = .int .i64 i ∧ Hid (L = M ++ List.replicate i (x)) ∧ wx.ownsRow B 43 1 s0 L.length (L.map (Value.int .u16)) ∧ Below B w wx ∧ B ≤ wx.heap.size)
        case atStart => exact ⟨0, M, Nat.zero_le _, rfl, rfl, (List.append_nil _).symm, hown, hbel, hBx⟩
        case round =>
          clear hown hBx hbel
          obtain ⟨i, L, hiN, rfl, rfl, HL6, hown, hbel, hBx⟩ := hrel
          have hlx : L.length ≤ 131080 := by rw [HL6.out]; simp; omega
          by_cases hlt : i < R
          · have hz : (i : Int) < (R : Int) := by omega
            go_wp2_with (at_builtin; refine wpList_append_own _ rfl (.tmp 44) (.tmp 47) 26 rfl B 43 i0 (.int .u16 0) 1 2 Try.underlying26 hi hz0 hz1 hz2 rfl (by decide) _ L.length (L.map (Value.int .u16)) rfl (hown.alloc _) ⟨wr.heap.size, 0, none⟩ 1 1 [.int .u16 (x)] rfl rfl (cell_one_new _ _ _) (ints_oneCell .u16 [x]) (by unfold maxLen; omega) (by omega) (by simp; omega) ?_)
            intro v2 w1 hown2 hgrow2 _
            obtain ⟨L2, HL2, ho, hbb, hBy⟩ := grew hBx hbel hown hown2 hgrow2
            clear hown hbel hown2 hgrow2 hBx hlx
            go_wp2
            go_roundg (R - (i + 1))
            case measure => omega
            case rel => exact ⟨i + 1, L2, by omega, rfl, by go_num, (by rw [HL2.out, HL6.out, List.replicate_succ', List.append_assoc] : L2 = _), ho, hbb, hBy⟩
          · have hz : ¬ ((i : Int) < (R : Int)) := by omega
            have HL6 : Hid (L = M ++ List.replicate (R) (x)) := by rw [show R = i from by omega]; exact HL6
            go_wp2
            go_ret
            exact ⟨_, rfl, _, (by rw [HL6.out, HL.out, HL0.out, HZ.out]; simp : _ = H ++ x :: Z), hown, hbel⟩
end Go.Proofs.Qxb6603850a
