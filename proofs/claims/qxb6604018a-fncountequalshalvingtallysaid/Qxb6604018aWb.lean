import Derived.Test.Qxb6604018aWa
namespace Go.Proofs.Qxb6604018a
open Go.RowKit

theorem rs_nil (w : World) : Calls Try.prog 7 #[.slice none 0 0] w fun e w' => e = .returned (.slice none 0 0) ∧ w' = w := by
  have hn : ∀ W, (binOp .eql 22 (.slice none 0 0) (.slice none 0 0)).run Try.prog W = .ok (.bool true) W := fun W => Lib.run_eql_slice_nil W _ _ none 0 0 0 0 Try.underlying22
  go_enter Try.func7, Try.ntmps7
  go_wp2
  go_ret
  exact ⟨rfl, rfl⟩

set_option maxHeartbeats 1000000 in
set_option maxRecDepth 1000000 in
theorem rs_some (x : Addr) (len cap : Nat) (ss : List ByteArray) (w : World) (hl : ss.length = len) (hm : len ≤ 65536) (hs : Seg w (some x) ss) :
    Calls Try.prog 7 #[.slice (some x) len cap] w fun e w' => e = .returned (.slice (some ⟨w.heap.size, 0, none⟩) len len) ∧ Below w.heap.size w w' ∧ Seg w' (some ⟨w.heap.size, 0, none⟩) ss := by
  have hn : ∀ W, (binOp .eql 22 (.slice (some x) len cap) (.slice none 0 0)).run Try.prog W = .ok (.bool false) W := fun W => Lib.run_eql_slice_nil W _ _ (some x) len cap 0 0 Try.underlying22
  have hmk := run_make_row' (P := Try.prog) 24 27 (.string ByteArray.empty) 16 Try.underlying24 Try.info27 rfl .i64 .i64 len (by omega) (by omega)
  have HL : Hid (ss.length = len) := hl
  have HS : Hid (Seg w (some x) ss) := hs
  clear hl hs
  go_enter Try.func7, Try.ntmps7
  go_wp2_with fail
  clear hmk hn
  go_loopg [4] len (fun g s4 wx => ∃ k : Nat, k ≤ len ∧ g = len - k ∧ s4 = .int .i64 k ∧ wx.rowIs w.heap.size 27 len (fun j => if j < k then .string (ss.getD j ByteArray.empty) else .string ByteArray.empty) ∧ Below w.heap.size w wx)
  case atStart =>
    refine ⟨0, Nat.zero_le _, rfl, rfl, (World.rowIs_made w (.string ByteArray.empty) len 27).congr fun i _ => ?_, (Below.refl _ _).alloc (Nat.le_refl _) _⟩
    rw [if_neg (by omega)]
  case round =>
    obtain ⟨k, hk, rfl, rfl, hrow, hbel⟩ := hrel
    by_cases hkn : k < len
    · obtain ⟨b, off, hx, hb, hc⟩ := seg_at HS.out (k := k) (by rw [HL.out]; exact hkn)
      simp only [Option.some.injEq] at hx
      subst hx
      have hkz : (k : Int) < (len : Int) := by omega
      have hck := (hbel.cell (p := ⟨b, off + k, none⟩) hb).trans (hc k (by rw [HL.out]; exact hkn))
      obtain ⟨y, hy⟩ : ∃ y, ss.getD k ByteArray.empty = y := ⟨_, rfl⟩
      rw [hy] at hck
      have hcw := hrow.cell hkn
      have hfw := hrow.frozen k
      simp only [Nat.lt_irrefl, if_false] at hcw
      have HR : Hid (wr.rowIs w.heap.size 27 len (fun j => if j < k then .string (ss.getD j ByteArray.empty) else .string ByteArray.empty)) := hrow
      have HY : Hid (ss.getD k ByteArray.empty = y) := hy
      clear hc hy hrow
      go_wp2
      go_roundg (len - (k + 1))
      case measure => omega
      case rel =>
        refine ⟨k + 1, by omega, rfl, by go_num, (HR.out.set k (.string y)).congr fun i _ => ?_, hbel.setCell (by simp) _⟩
        by_cases hik : i = k
        · subst hik; rw [if_pos rfl, if_pos (by omega), HY.out]
        · rw [if_neg hik]
          by_cases h2 : i < k
          · rw [if_pos h2, if_pos (by omega)]
          · rw [if_neg h2, if_neg (by omega)]
    · have hkz : ¬ ((k : Int) < (len : Int)) := by omega
      go_wp2
      go_ret
      refine ⟨rfl, hbel, .inr ⟨w.heap.size, 0, rfl, hrow.lt, fun j hj => ?_⟩⟩
      have hj2 : j < len := by rw [HL.out] at hj; exact hj
      have := hrow.cell hj2
      rw [if_pos (by omega)] at this
      rw [Nat.zero_add]; exact this

theorem rs_any (a0 : Option Addr) (len cap : Nat) (ss : List ByteArray) (w : World) (h0 : a0 = none → len = 0 ∧ cap = 0) (hl : ss.length = len) (hm : len ≤ 65536) (hs : Seg w a0 ss) :
    Calls Try.prog 7 #[.slice a0 len cap] w fun e w' => ∃ a1 c1, e = .returned (.slice a1 len c1) ∧ Below w.heap.size w w' ∧ Seg w' a1 ss := by
  cases a0 with
  | none =>
    obtain ⟨rfl, rfl⟩ := h0 rfl
    refine (rs_nil w).mono fun e w' ⟨he, hw⟩ => ?_
    subst he; subst hw
    exact ⟨none, 0, rfl, Below.refl _ _, .inl (List.eq_nil_of_length_eq_zero hl)⟩
  | some x =>
    refine (rs_some x len cap ss w hl hm hs).mono fun e w' ⟨he, hb, hs'⟩ => ?_
    subst he
    exact ⟨_, _, rfl, hb, hs'⟩

set_option maxHeartbeats 1000000 in
set_option maxRecDepth 1000000 in
theorem count_any (a : Option Addr) (len cap : Nat) (ss : List ByteArray) (r : ByteArray) (w : World) (hl : ss.length = len) (hm : len ≤ 65536) (hs : Seg w a ss) :
    Calls Try.prog 12 #[.slice a len cap, .string r] w fun e w' => e = .returned (.int .i64 ((lsOf ss).count r.toList)) ∧ w = w' := by
  obtain ⟨N, hN⟩ : ∃ N, (lsOf ss).count r.toList = N := ⟨_, rfl⟩
  rw [hN]
  have HNN : Hid ((lsOf ss).count r.toList = N) := hN
  have HL : Hid (ss.length = len) := hl
  have HS : Hid (Seg w a ss) := hs
  clear hl hs hN
  go_enter Try.func12, Try.ntmps12
  go_wp2_with fail
  go_loopg [5, 7, 10] len (fun g s5 s7 s10 wx => w = wx ∧ ∃ k c : Nat, k ≤ len ∧ c ≤ k ∧ g = len - k ∧ s10 = .int .i64 k ∧ s5 = .int .i64 c ∧ Hid (c = Pl.cr (lsOf ss) 0 k r.toList))
  case atStart => exact ⟨rfl, 0, 0, Nat.zero_le _, Nat.le_refl _, rfl, rfl, rfl, (Pl.cr_empty _ _ _ _ (Nat.le_refl _)).symm⟩
  case round =>
    obtain ⟨rfl, k, c, hk, hck, rfl, rfl, rfl, HC⟩ := hrel
    by_cases hkn : k < len
    · obtain ⟨b, off, rfl, hb, hc⟩ := seg_at HS.out (k := k) (by rw [HL.out]; exact hkn)
      have hkz : (k : Int) < (len : Int) := by omega
      have hcell := hc k (by rw [HL.out]; exact hkn)
      have hkl : k < (lsOf ss).length := by rw [lsOf_len, HL.out]; exact hkn
      obtain ⟨y, hy⟩ : ∃ y, ss.getD k ByteArray.empty = y := ⟨_, rfl⟩
      have HY : Hid ((lsOf ss)[k]'hkl = y.toList) := by rw [lsOf_get, hy]; rfl
      rw [hy] at hcell
      clear hc hy
      by_cases he : y.toList = r.toList
      · have hb : (y.toList == r.toList) = true := by rw [he]; simp
        have HE : Hid (y.toList = r.toList) := he
        clear he
        go_wp2
        go_roundg (len - (k + 1))
        case measure => omega
        case rel =>
          refine ⟨rfl, k + 1, c + 1, by omega, by omega, rfl, by go_num, by go_num, ?_⟩
          show c + 1 = _
          rw [Pl.cr_snoc _ _ _ _ (Nat.zero_le _) hkl, HY.out, if_pos HE.out, HC.out]
      · have hb : (y.toList == r.toList) = false := beq_false_of_ne he
        have HE : Hid (¬ y.toList = r.toList) := he
        clear he
        go_wp2
        go_roundg (len - (k + 1))
        case measure => omega
        case rel =>
          refine ⟨rfl, k + 1, c, by omega, by omega, rfl, by go_num, rfl, ?_⟩
          show c = _
          rw [Pl.cr_snoc _ _ _ _ (Nat.zero_le _) hkl, HY.out, if_neg HE.out, HC.out]; rfl
    · have hkz : ¬ ((k : Int) < (len : Int)) := by omega
      have hcN : c = N := by
        rw [HC.out, show k = (lsOf ss).length from by rw [lsOf_len, HL.out]; omega, Pl.cr_all, HNN.out]
      go_wp2
      go_ret
      exact ⟨by rw [← hcN]; rfl, rfl⟩

theorem zcount_any (a : Option Addr) (len cap : Nat) (ss : List ByteArray) (r : ByteArray) (w : World) (hl : ss.length = len) (hm : len ≤ 65536) (hs : Seg w a ss) :
    Calls Try.prog 8 #[.slice a len cap, .string r] w fun e w' => e = .returned (.int .i64 ((lsOf ss).count r.toList)) ∧ w = w' := by
  go_enter Try.func8, Try.ntmps8
  go_wp2_with (go_at_call 12; refine (count_any a len cap ss r _ hl hm hs).mono ?_; rintro e w' ⟨rfl, rfl⟩)
  go_ret
  exact ⟨rfl, rfl⟩
end Go.Proofs.Qxb6604018a
