import Derived.Test.Qxb6604018aProg
import Derived.Test.Qxb6604018aPlain
import Derived.WalkKit
import Derived.WalkSpells
import Derived.WalkLawsBesides
import Derived.Deep.LoopGhost
import Derived.Deep.DeepCutAuto
import Derived.Deep.CutBlock
import Derived.Deep.OwnRows
import Derived.Deep.QuietTactic
import Derived.BigQuiet
namespace Go.Proofs.Qxb6604018a
open Go.RowKit

theorem Try.info27 : (Try.prog.info? 27).map (fun i => (i.zero, i.size, i.bytes)) = some (some (.string ByteArray.empty), 1, 16) := by kernel_rfl

/-- The strings ss lie behind the address a (of the empty list nothing is said). -/
def Seg (w : World) (a : Option Addr) (ss : List ByteArray) : Prop :=
  ss = [] ∨ ∃ b off, a = some ⟨b, off, none⟩ ∧ b < w.heap.size ∧ ∀ j, j < ss.length → w.cell? ⟨b, off + j, none⟩ = some (.string (ss.getD j ByteArray.empty))

theorem Seg.carry {w w' : World} {a : Option Addr} {ss : List ByteArray} {B : Nat} (h : Seg w a ss) (hb : Below B w w') (hB : w.heap.size ≤ B) : Seg w' a ss := by
  rcases h with h | ⟨b, off, ha, hlt, hc⟩
  · exact .inl h
  · exact .inr ⟨b, off, ha, by have := hb.size; omega, fun j hj => (hb.cell (p := ⟨b, off + j, none⟩) (by show b < B; omega)).trans (hc j hj)⟩

theorem seg_at {w : World} {a : Option Addr} {ss : List ByteArray} (h : Seg w a ss) {k : Nat} (hk : k < ss.length) : ∃ b off, a = some ⟨b, off, none⟩ ∧ b < w.heap.size ∧ ∀ j, j < ss.length → w.cell? ⟨b, off + j, none⟩ = some (.string (ss.getD j ByteArray.empty)) := by
  rcases h with h | h
  · rw [h] at hk; simp at hk
  · exact h

/-- The strings as lists of bytes. -/
def lsOf (ss : List ByteArray) : List (List UInt8) := ss.map ByteArray.toList
theorem lsOf_len (ss : List ByteArray) : (lsOf ss).length = ss.length := by simp [lsOf]
theorem lsOf_get (ss : List ByteArray) (k : Nat) (h : k < (lsOf ss).length) : (lsOf ss)[k] = (ss.getD k ByteArray.empty).toList := by
  have hk : k < ss.length := by rw [lsOf_len] at h; exact h
  simp [lsOf, List.getD, hk]

theorem toList_len (a : ByteArray) : a.toList.length = a.size := by rw [ByteArray.toList_eq, Array.length_toList]; rfl
theorem toList_get (a : ByteArray) (k : Nat) (h : k < a.size) : a.toList[k]? = some (a[k]'h) := by
  rw [ByteArray.toList_eq, Array.getElem?_toList]
  exact Array.getElem?_eq_some_iff.2 ⟨h, rfl⟩

/-- Do two strings bear the same bytes? -/
def sm (a b : ByteArray) : Bool := decide (a.toList = b.toList)

set_option maxHeartbeats 1000000 in
set_option maxRecDepth 1000000 in
theorem same_any (a b : ByteArray) (ha : a.size ≤ 9223372036854775807) (w : World) :
    Calls Try.prog 11 #[.string a, .string b] w fun e w' => e = .returned (.bool (sm a b)) ∧ ∃ n, w' = w.drewN n := by
  obtain ⟨r, hr⟩ : ∃ r, sm a b = r := ⟨_, rfl⟩
  rw [hr]
  have HR : Hid (sm a b = r) := hr
  clear hr
  by_cases hl : a.size = b.size
  · have hlb : ((a.size : Int) == (b.size : Int)) = true := by rw [hl]; simp
    have HL : Hid (a.size = b.size) := hl
    have hle : (a.size : Int) ≤ (b.size : Int) := by omega
    clear hl
    go_enter Try.func11, Try.ntmps11
    go_wp2_with fail
    go_loopg [5] a.size (fun g s5 wx => ∃ nq k : Nat, wx = w.drewN nq ∧ k ≤ a.size ∧ g = a.size - k ∧ s5 = .int .i64 k ∧ Hid (∀ j, j < k → a.toList[j]? = b.toList[j]?))
    case atStart => exact ⟨0, 0, rfl, Nat.zero_le _, rfl, rfl, fun j h => by omega⟩
    case round =>
      obtain ⟨nq, k, rfl, hk, rfl, rfl, HK⟩ := hrel
      by_cases hkn : k < a.size
      · have hkz : (k : Int) < (a.size : Int) := by omega
        have hkb : k < b.size := by rw [← HL.out]; exact hkn
        have hkz2 : (k : Int) < (b.size : Int) := by omega
        have hk0 : (0 : Int) ≤ (k : Int) := by omega
        obtain ⟨x, hx⟩ : ∃ x, ((a[k]'hkn).toNat : Int) = x := ⟨_, rfl⟩
        obtain ⟨y, hy⟩ : ∃ y, ((b[k]'hkb).toNat : Int) = y := ⟨_, rfl⟩
        by_cases hxy : x = y
        · have HXY : Hid (a.toList[k]? = b.toList[k]?) := by
            show a.toList[k]? = _
            rw [toList_get a k hkn, toList_get b k hkb]
            congr 1
            exact UInt8.toNat_inj.1 (by omega)
          subst hxy
          go_wp2
          go_quiet (fail)
          go_wp2
          go_roundg (a.size - (k + 1))
          case measure => omega
          case rel =>
            refine ⟨_, k + 1, by first | rfl | exact World.drewN_drewN .., by omega, rfl, by go_num, fun j hj => ?_⟩
            by_cases e : j = k
            · subst e; exact HXY.out
            · exact HK.out j (by omega)
        · have HRF : Hid (r = false) := by
            show r = false
            rw [← HR.out]; unfold sm
            refine decide_eq_false fun e => hxy ?_
            have h1 := toList_get a k hkn
            have h2 := toList_get b k hkb
            rw [e, h2] at h1
            injection h1 with h1
            rw [← hx, ← hy, h1]
          have hne : (x == y) = false := beq_false_of_ne hxy
          clear hxy HK
          go_wp2
          go_quiet (fail)
          go_wp2
          go_ret
          exact ⟨by rw [HRF.out]; rfl, _, by first | rfl | exact World.drewN_drewN ..⟩
      · have hkz : ¬ ((k : Int) < (a.size : Int)) := by omega
        have HRT : Hid (r = true) := by
          show r = true
          rw [← HR.out]; unfold sm
          refine decide_eq_true (List.ext_getElem? fun j => ?_)
          by_cases hj : j < k
          · exact HK.out j hj
          · rw [List.getElem?_eq_none (by rw [toList_len]; omega), List.getElem?_eq_none (by rw [toList_len, ← HL.out]; omega)]
        clear HK
        go_wp2
        go_ret
        exact ⟨by rw [HRT.out]; rfl, _, rfl⟩
  · have hlb : ((a.size : Int) == (b.size : Int)) = false := beq_false_of_ne (by omega)
    have HRF : Hid (r = false) := by
      show r = false
      rw [← HR.out]; unfold sm
      refine decide_eq_false fun e => hl ?_
      rw [← toList_len, e, toList_len]
    clear hl
    go_enter Try.func11, Try.ntmps11
    go_wp2
    go_ret
    exact ⟨by rw [HRF.out]; rfl, 0, rfl⟩
end Go.Proofs.Qxb6604018a
