import Derived.Test.Qxb6603973aProg
import Derived.WalkKit
import Derived.WalkSpells
import Derived.WalkLawsBesides
import Derived.Deep.LoopGhost
import Derived.Deep.DeepCutAuto
import Derived.Deep.CutBlock
namespace Go.Proofs.Qxb6603973a
open Go.RowKit

def hexP (x : Int) : Prop := (48 ≤ x ∧ x ≤ 57) ∨ (97 ≤ x ∧ x ≤ 102) ∨ (65 ≤ x ∧ x ≤ 70)
def dash (j : Nat) : Prop := j = 8 ∨ j = 13 ∨ j = 18 ∨ j = 23
/-- What a UUID's text may bear at place j. -/
def okAt (j : Nat) (x : Int) : Prop := (dash j ∧ x = 45) ∨ (¬ dash j ∧ hexP x)

theorem hex_any (v : Int) (h0 : 0 ≤ v) (h1 : v ≤ 15) (up : Bool) (w : World) :
    Calls Try.prog 16 #[.int .u8 v, .bool up] w fun e w' => ∃ x, e = .returned (.int .u8 x) ∧ Hid (hexP x) ∧ w = w' := by
  by_cases h : v < 10
  · go_enter Try.func16, Try.ntmps16
    go_wp2
    go_ret
    exact ⟨_, rfl, .inl ⟨by omega, by omega⟩, rfl⟩
  · cases up
    · go_enter Try.func16, Try.ntmps16
      go_wp2
      go_ret
      exact ⟨_, rfl, .inr (.inl ⟨by omega, by omega⟩), rfl⟩
    · go_enter Try.func16, Try.ntmps16
      go_wp2
      go_ret
      exact ⟨_, rfl, .inr (.inr ⟨by omega, by omega⟩), rfl⟩

set_option maxHeartbeats 2000000 in
set_option maxRecDepth 1000000 in
theorem valid_yes (t : ByteArray) (hs : t.size = 36) (hok : ∀ j (h : j < t.size), okAt j ((t[j]'h).toNat : Int)) (w : World) :
    Calls Try.prog 13 #[.string t] w fun e w' => e = .returned (.bool true) ∧ w = w' := by
  have hz : ((t.size : Int) == 36) = true := by rw [hs]; rfl
  have hsz : (t.size : Int) ≤ 36 := by omega
  have hsz2 : (36 : Int) ≤ (t.size : Int) := by omega
  have HS : Hid (t.size = 36) := hs
  have HO : Hid (∀ j (h : j < t.size), okAt j ((t[j]'h).toNat : Int)) := hok
  clear hs hok
  go_enter Try.func13, Try.ntmps13
  go_wp2_with fail
  go_loopg [3, 4, 5] 36 (fun g s3 s4 s5 wx => w = wx ∧ ∃ k : Nat, k ≤ 36 ∧ g = 36 - k ∧ s4 = .int .i64 k ∧ s3 = .bool true)
  case atStart => exact ⟨rfl, 0, by omega, rfl, rfl, rfl⟩
  case round =>
    obtain ⟨rfl, k, hk, rfl, rfl, rfl⟩ := hrel
    by_cases hkn : k < 36
    · have hkt : k < t.size := by rw [HS.out]; exact hkn
      have hkz : (k : Int) < (t.size : Int) := by omega
      obtain ⟨x, hx⟩ : ∃ x, ((t[k]'hkt).toNat : Int) = x := ⟨_, rfl⟩
      have ho := HO.out k hkt
      rw [hx] at ho
      rcases ho with ⟨hd, hx45⟩ | ⟨hd, hh⟩
      · have hxb : (x == 45) = true := by rw [hx45]; rfl
        clear hx45
        rcases hd with hd | hd | hd | hd
        · have e8 : ((k : Int) == 8) = true := by rw [hd]; rfl
          clear hd
          go_wp2
          go_roundg (36 - (k + 1))
          case measure => omega
          case rel => exact ⟨rfl, k + 1, by omega, rfl, by go_num, rfl⟩
        · have e8 : ((k : Int) == 8) = false := by rw [hd]; rfl
          have e13 : ((k : Int) == 13) = true := by rw [hd]; rfl
          clear hd
          go_wp2
          go_roundg (36 - (k + 1))
          case measure => omega
          case rel => exact ⟨rfl, k + 1, by omega, rfl, by go_num, rfl⟩
        · have e8 : ((k : Int) == 8) = false := by rw [hd]; rfl
          have e13 : ((k : Int) == 13) = false := by rw [hd]; rfl
          have e18 : ((k : Int) == 18) = true := by rw [hd]; rfl
          clear hd
          go_wp2
          go_roundg (36 - (k + 1))
          case measure => omega
          case rel => exact ⟨rfl, k + 1, by omega, rfl, by go_num, rfl⟩
        · have e8 : ((k : Int) == 8) = false := by rw [hd]; rfl
          have e13 : ((k : Int) == 13) = false := by rw [hd]; rfl
          have e18 : ((k : Int) == 18) = false := by rw [hd]; rfl
          have e23 : ((k : Int) == 23) = true := by rw [hd]; rfl
          clear hd
          go_wp2
          go_roundg (36 - (k + 1))
          case measure => omega
          case rel => exact ⟨rfl, k + 1, by omega, rfl, by go_num, rfl⟩
      · unfold dash at hd
        have e8 : ((k : Int) == 8) = false := beq_false_of_ne (by omega)
        have e13 : ((k : Int) == 13) = false := beq_false_of_ne (by omega)
        have e18 : ((k : Int) == 18) = false := beq_false_of_ne (by omega)
        have e23 : ((k : Int) == 23) = false := beq_false_of_ne (by omega)
        clear hd
        rcases hh with ⟨ha, hb⟩ | ⟨ha, hb⟩ | ⟨ha, hb⟩
        · have d1 : decide ((48 : Int) ≤ x) = true := decide_eq_true ha
          have d2 : decide (x ≤ (57 : Int)) = true := decide_eq_true hb
          go_wp2
          go_roundg (36 - (k + 1))
          case measure => omega
          case rel => exact ⟨rfl, k + 1, by omega, rfl, by go_num, rfl⟩
        · have d1 : decide ((48 : Int) ≤ x) = true := decide_eq_true (by omega)
          have d2 : decide (x ≤ (57 : Int)) = false := decide_eq_false (by omega)
          have d3 : decide ((97 : Int) ≤ x) = true := decide_eq_true ha
          have d4 : decide (x ≤ (102 : Int)) = true := decide_eq_true hb
          go_wp2
          go_roundg (36 - (k + 1))
          case measure => omega
          case rel => exact ⟨rfl, k + 1, by omega, rfl, by go_num, rfl⟩
        · have d1 : decide ((48 : Int) ≤ x) = true := decide_eq_true (by omega)
          have d2 : decide (x ≤ (57 : Int)) = false := decide_eq_false (by omega)
          have d3 : decide ((97 : Int) ≤ x) = false := decide_eq_false (by omega)
          have d5 : decide ((65 : Int) ≤ x) = true := decide_eq_true ha
          have d6 : decide (x ≤ (70 : Int)) = true := decide_eq_true hb
          go_wp2
          go_roundg (36 - (k + 1))
          case measure => omega
          case rel => exact ⟨rfl, k + 1, by omega, rfl, by go_num, rfl⟩
    · have hkz : ¬ ((k : Int) < (t.size : Int)) := by omega
      go_wp2
      go_ret
      exact ⟨rfl, rfl⟩

set_option maxHeartbeats 1000000 in
set_option maxRecDepth 1000000 in
theorem valid_no (t : ByteArray) (hs : t.size ≠ 36) (w : World) :
    Calls Try.prog 13 #[.string t] w fun e w' => e = .returned (.bool false) ∧ w = w' := by
  have hz : ((t.size : Int) == 36) = false := beq_false_of_ne (by omega)
  clear hs
  go_enter Try.func13, Try.ntmps13
  go_wp2_with fail
  go_loopg [3, 4, 5] 0 (fun g s3 s4 s5 wx => w = wx ∧ s3 = .bool false)
  case atStart => exact ⟨rfl, rfl⟩
  case round =>
    obtain ⟨rfl, rfl⟩ := hrel
    go_wp2
    go_ret
    exact ⟨rfl, rfl⟩
end Go.Proofs.Qxb6603973a
