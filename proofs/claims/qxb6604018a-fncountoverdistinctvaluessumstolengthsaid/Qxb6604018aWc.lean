import Derived.Test.Qxb6604018aWb
namespace Go.Proofs.Qxb6604018a
open Go.RowKit

/-- It answers a bool. -/
def Ans (e : Ending) : Prop := ∃ b, e = .returned (.bool b)

theorem size_of {ss : List ByteArray} (h : ∀ s ∈ ss, s.size ≤ 9223372036854775807) (k : Nat) : (ss.getD k ByteArray.empty).size ≤ 9223372036854775807 := by
  by_cases hk : k < ss.length
  · have := h ss[k] (List.getElem_mem hk)
    simpa [List.getD, hk] using this
  · simp [List.getD, List.getElem?_eq_none (Nat.le_of_not_lt hk)]

set_option maxHeartbeats 2000000 in
set_option maxRecDepth 1000000 in
theorem within_any (a : Option Addr) (len cap : Nat) (ss : List ByteArray) (r : ByteArray) (w : World) (hl : ss.length = len) (hm : len ≤ 9223372036854775807) (hr : r.size ≤ 9223372036854775807) (hsz : ∀ s ∈ ss, s.size ≤ 9223372036854775807) (hs : Seg w a ss) :
    Calls Try.prog 6 #[.slice a len cap, .string r] w fun e w' => Ans e ∧ w = w' := by
  have HL : Hid (ss.length = len) := hl
  have HS : Hid (Seg w a ss) := hs
  have HZ : Hid (∀ s ∈ ss, s.size ≤ 9223372036854775807) := hsz
  clear hl hs hsz
  go_enter Try.func6, Try.ntmps6
  by_cases hr2 : r.size ≤ 1048576
  · go_wp2_with fail
    go_loopg [5, 6] len (fun g s5 s6 wx => w = wx ∧ ∃ (k : Nat) (z : Int), k ≤ len ∧ g = len - k ∧ s6 = .int .i64 k ∧ s5 = .int .i64 z ∧ 0 ≤ z ∧ z ≤ 1048576)
    case atStart => exact ⟨rfl, 0, _, Nat.zero_le _, rfl, rfl, rfl, by omega, by omega⟩
    case round =>
      obtain ⟨rfl, k, z, hk, rfl, rfl, rfl, hz0, hz1⟩ := hrel
      by_cases hkn : k < len
      · obtain ⟨b, off, rfl, hb, hc⟩ := seg_at HS.out (k := k) (by rw [HL.out]; exact hkn)
        have hkz : (k : Int) < (len : Int) := by omega
        have hcell := hc k (by rw [HL.out]; exact hkn)
        have hys := size_of HZ.out k
        obtain ⟨y, hy⟩ : ∃ y, ss.getD k ByteArray.empty = y := ⟨_, rfl⟩
        rw [hy] at hcell hys
        clear hc hy
        by_cases h16 : (16 : Int) ≤ 1048576 - z
        · by_cases hyz : (y.size : Int) ≤ 1048576 - (z + 16)
          · go_wp2
            go_roundg (len - (k + 1))
            case measure => omega
            case rel => exact ⟨rfl, k + 1, z + 16 + y.size, by omega, rfl, by go_num, rfl, by omega, by omega⟩
          · go_wp2
            go_ret
            exact ⟨⟨_, rfl⟩, rfl⟩
        · go_wp2
          go_ret
          exact ⟨⟨_, rfl⟩, rfl⟩
      · have hkz : ¬ ((k : Int) < (len : Int)) := by omega
        go_wp2
        go_ret
        exact ⟨⟨_, rfl⟩, rfl⟩
  · go_wp2
    go_ret
    exact ⟨⟨_, rfl⟩, rfl⟩

set_option maxHeartbeats 2000000 in
set_option maxRecDepth 1000000 in
theorem bytes5_any (a : Option Addr) (len cap : Nat) (ss : List ByteArray) (r : ByteArray) (w : World) (hl : ss.length = len) (hm : len ≤ 9223372036854775807) (hr : r.size ≤ 9223372036854775807) (hsz : ∀ s ∈ ss, s.size ≤ 9223372036854775807) (hs : Seg w a ss) :
    Calls Try.prog 5 #[.slice a len cap, .string r] w fun e w' => Ans e ∧ w = w' := by
  have HL : Hid (ss.length = len) := hl
  have HS : Hid (Seg w a ss) := hs
  have HZ : Hid (∀ s ∈ ss, s.size ≤ 9223372036854775807) := hsz
  clear hl hs hsz
  go_enter Try.func5, Try.ntmps5
  by_cases hr2 : len ≤ 1048576
  · go_wp2_with fail
    go_loopg [5, 6] len (fun g s5 s6 wx => w = wx ∧ ∃ (k : Nat) (z : Int), k ≤ len ∧ g = len - k ∧ s6 = .int .i64 k ∧ s5 = .int .i64 z ∧ 0 ≤ z ∧ z ≤ 1048576)
    case atStart => exact ⟨rfl, 0, _, Nat.zero_le _, rfl, rfl, rfl, by omega, by omega⟩
    case round =>
      obtain ⟨rfl, k, z, hk, rfl, rfl, rfl, hz0, hz1⟩ := hrel
      by_cases hkn : k < len
      · obtain ⟨b, off, rfl, hb, hc⟩ := seg_at HS.out (k := k) (by rw [HL.out]; exact hkn)
        have hkz : (k : Int) < (len : Int) := by omega
        have hcell := hc k (by rw [HL.out]; exact hkn)
        have hys := size_of HZ.out k
        obtain ⟨y, hy⟩ : ∃ y, ss.getD k ByteArray.empty = y := ⟨_, rfl⟩
        rw [hy] at hcell hys
        clear hc hy
        by_cases h16 : (y.size : Int) ≤ 1048576
        · by_cases hyz : z + (y.size : Int) ≤ 1048576
          · go_wp2
            go_roundg (len - (k + 1))
            case measure => omega
            case rel => exact ⟨rfl, k + 1, z + y.size, by omega, rfl, by go_num, rfl, by omega, by omega⟩
          · go_wp2
            go_ret
            exact ⟨⟨_, rfl⟩, rfl⟩
        · go_wp2
          go_ret
          exact ⟨⟨_, rfl⟩, rfl⟩
      · have hkz : ¬ ((k : Int) < (len : Int)) := by omega
        by_cases h16 : (r.size : Int) ≤ 1048576
        · by_cases hyz : z + (r.size : Int) ≤ 1048576
          · go_wp2
            go_ret
            exact ⟨⟨_, rfl⟩, rfl⟩
          · go_wp2
            go_ret
            exact ⟨⟨_, rfl⟩, rfl⟩
        · go_wp2
          go_ret
          exact ⟨⟨_, rfl⟩, rfl⟩
  · go_wp2
    go_ret
    exact ⟨⟨_, rfl⟩, rfl⟩

set_option maxHeartbeats 2000000 in
set_option maxRecDepth 1000000 in
theorem bytes10_any (a : Option Addr) (len cap : Nat) (ss : List ByteArray) (w : World) (hl : ss.length = len) (hm : len ≤ 9223372036854775807) (hsz : ∀ s ∈ ss, s.size ≤ 9223372036854775807) (hs : Seg w a ss) :
    Calls Try.prog 10 #[.slice a len cap] w fun e w' => Ans e ∧ w = w' := by
  have HL : Hid (ss.length = len) := hl
  have HS : Hid (Seg w a ss) := hs
  have HZ : Hid (∀ s ∈ ss, s.size ≤ 9223372036854775807) := hsz
  clear hl hs hsz
  go_enter Try.func10, Try.ntmps10
  by_cases hr2 : len ≤ 1048576
  · go_wp2_with fail
    go_loopg [3, 4] len (fun g s3 s4 wx => w = wx ∧ ∃ (k : Nat) (z : Int), k ≤ len ∧ g = len - k ∧ s4 = .int .i64 k ∧ s3 = .int .i64 z ∧ 0 ≤ z ∧ z ≤ 1048576)
    case atStart => exact ⟨rfl, 0, _, Nat.zero_le _, rfl, rfl, rfl, by omega, by omega⟩
    case round =>
      obtain ⟨rfl, k, z, hk, rfl, rfl, rfl, hz0, hz1⟩ := hrel
      by_cases hkn : k < len
      · obtain ⟨b, off, rfl, hb, hc⟩ := seg_at HS.out (k := k) (by rw [HL.out]; exact hkn)
        have hkz : (k : Int) < (len : Int) := by omega
        have hcell := hc k (by rw [HL.out]; exact hkn)
        have hys := size_of HZ.out k
        obtain ⟨y, hy⟩ : ∃ y, ss.getD k ByteArray.empty = y := ⟨_, rfl⟩
        rw [hy] at hcell hys
        clear hc hy
        by_cases h16 : (y.size : Int) ≤ 1048576
        · by_cases hyz : z + (y.size : Int) ≤ 1048576
          · go_wp2
            go_roundg (len - (k + 1))
            case measure => omega
            case rel => exact ⟨rfl, k + 1, z + y.size, by omega, rfl, by go_num, rfl, by omega, by omega⟩
          · go_wp2
            go_ret
            exact ⟨⟨_, rfl⟩, rfl⟩
        · go_wp2
          go_ret
          exact ⟨⟨_, rfl⟩, rfl⟩
      · have hkz : ¬ ((k : Int) < (len : Int)) := by omega
        go_wp2
        go_ret
        exact ⟨⟨_, rfl⟩, rfl⟩
  · go_wp2
    go_ret
    exact ⟨⟨_, rfl⟩, rfl⟩
end Go.Proofs.Qxb6604018a
