import Derived.Test.Qxb6603973aProg
import Derived.WalkKit
import Derived.WalkSpells
import Derived.WalkLawsBesides
import Derived.Deep.LoopGhost
import Derived.Deep.DeepCutAuto
import Derived.Deep.CutBlock
namespace Go.Proofs.Qxb6603973a
open Go.RowKit

/-- Every byte is a decimal digit. -/
def Dig (t : ByteArray) : Prop := ∀ j (h : j < t.size), 48 ≤ ((t[j]'h).toNat : Int) ∧ ((t[j]'h).toNat : Int) ≤ 57

theorem emp_yes {s : ByteArray} (h : s.size = 0) : s.toList.isEmpty = true := by
  rw [ByteArray.toList_eq, List.isEmpty_iff]
  exact List.eq_nil_of_length_eq_zero (by rw [Array.length_toList]; exact h)
theorem emp_no {s : ByteArray} (h : ¬ s.size = 0) : s.toList.isEmpty = false := by
  rw [ByteArray.toList_eq, List.isEmpty_eq_false_iff]
  intro e
  have : s.data.toList.length = 0 := by rw [e]; rfl
  rw [Array.length_toList] at this
  exact h this

set_option maxHeartbeats 400000 in
theorem dig_yes (t : ByteArray) (ht : t.size ≤ 1048576) (hd : Dig t) (w : World) : Calls Try.prog 11 #[.string t] w fun e w' => e = .returned (.bool true) ∧ w = w' := by
  have HD : Hid (Dig t) := hd
  clear hd
  go_enter Try.func11, Try.ntmps11
  go_wp2_with fail
  go_loopg [3] t.size (fun g s3 wx => w = wx ∧ ∃ k : Nat, k ≤ t.size ∧ g = t.size - k ∧ s3 = .int .i64 k)
  case atStart => exact ⟨rfl, 0, Nat.zero_le _, rfl, rfl⟩
  case round =>
    obtain ⟨rfl, k, hk, rfl, rfl⟩ := hrel
    by_cases hkn : k < t.size
    · have hkz : (k : Int) < (t.size : Int) := by omega
      obtain ⟨x, hx⟩ : ∃ x, ((t[k]'hkn).toNat : Int) = x := ⟨_, rfl⟩
      have h := HD.out k hkn
      rw [hx] at h
      have d1 : decide (x < (48 : Int)) = false := decide_eq_false (by omega)
      have d2 : decide ((57 : Int) < x) = false := decide_eq_false (by omega)
      clear h
      go_wp2
      go_roundg (t.size - (k + 1))
      case measure => omega
      case rel => exact ⟨rfl, k + 1, by omega, rfl, by go_num⟩
    · have hkz : ¬ ((k : Int) < (t.size : Int)) := by omega
      go_wp2
      go_ret
      exact ⟨rfl, rfl⟩

set_option maxHeartbeats 400000 in
theorem dig_no (t : ByteArray) (ht : t.size ≤ 1048576) (hd : ¬ Dig t) (w : World) : Calls Try.prog 11 #[.string t] w fun e w' => e = .returned (.bool false) ∧ w = w' := by
  have HD : Hid (¬ Dig t) := hd
  clear hd
  go_enter Try.func11, Try.ntmps11
  go_wp2_with fail
  go_loopg [3] t.size (fun g s3 wx => w = wx ∧ ∃ k : Nat, k ≤ t.size ∧ g = t.size - k ∧ s3 = .int .i64 k ∧ Hid (∀ j (h : j < t.size), j < k → 48 ≤ ((t[j]'h).toNat : Int) ∧ ((t[j]'h).toNat : Int) ≤ 57))
  case atStart => exact ⟨rfl, 0, Nat.zero_le _, rfl, rfl, fun j _ h => by omega⟩
  case round =>
    obtain ⟨rfl, k, hk, rfl, rfl, HK⟩ := hrel
    by_cases hkn : k < t.size
    · have hkz : (k : Int) < (t.size : Int) := by omega
      obtain ⟨x, hx⟩ : ∃ x, ((t[k]'hkn).toNat : Int) = x := ⟨_, rfl⟩
      have HX : Hid (((t[k]'hkn).toNat : Int) = x) := hx
      by_cases h1 : x < 48
      · have d1 : decide (x < (48 : Int)) = true := decide_eq_true h1
        clear h1
        go_wp2
        go_ret
        exact ⟨rfl, rfl⟩
      · have d1 : decide (x < (48 : Int)) = false := decide_eq_false h1
        by_cases h2 : 57 < x
        · have d2 : decide ((57 : Int) < x) = true := decide_eq_true h2
          clear h1 h2
          go_wp2
          go_ret
          exact ⟨rfl, rfl⟩
        · have d2 : decide ((57 : Int) < x) = false := decide_eq_false h2
          have HB : Hid (48 ≤ x ∧ x ≤ 57) := ⟨by omega, by omega⟩
          clear h1 h2
          go_wp2
          go_roundg (t.size - (k + 1))
          case measure => omega
          case rel =>
            refine ⟨rfl, k + 1, by omega, rfl, by go_num, fun j hj hjk => ?_⟩
            by_cases e : j = k
            · subst e; rw [HX.out]; exact HB.out
            · exact HK.out j hj (by omega)
    · exact absurd (fun j hj => HK.out j hj (by omega)) HD.out

/-- What String writes. -/
def full (neg : Bool) (a b : ByteArray) : ByteArray :=
  if neg then (if b.size = 0 then { data := #[45] } ++ a else { data := #[45] } ++ (a ++ ({ data := #[46] } ++ b))) else (if b.size = 0 then a else a ++ ({ data := #[46] } ++ b))

set_option maxHeartbeats 1000000 in
theorem str_any (neg : Bool) (a b : ByteArray) (ha : a.size ≤ 65536) (hb : b.size ≤ 65536) (w : World) :
    Calls Try.prog 17 #[.agg #[.bool neg, .string a, .string b]] w fun e w' => ∃ S, e = .returned (.string S) ∧ Hid (S = full neg a b) ∧ Grown w w' := by
  by_cases hb0 : b.size = 0
  · have he := emp_yes hb0
    have HB : Hid (b.size = 0) := hb0
    clear hb0
    cases neg
    all_goals
      go_enter Try.func17, Try.ntmps17
      go_wp2
      go_ret
      exact ⟨_, rfl, by have h := HB.out; simp only [full, Hid, h, if_true, if_false, Bool.false_eq_true], (Grown.refl _).alloc _ _⟩
  · have he := emp_no hb0
    have HB : Hid (¬ b.size = 0) := hb0
    clear hb0
    cases neg
    all_goals
      go_enter Try.func17, Try.ntmps17
      go_wp2
      go_ret
      exact ⟨_, rfl, by have h := HB.out; simp only [full, Hid, h, if_true, if_false, Bool.false_eq_true], (Grown.refl _).alloc _ _⟩
end Go.Proofs.Qxb6603973a
