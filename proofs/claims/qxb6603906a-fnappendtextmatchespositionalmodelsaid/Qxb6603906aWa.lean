import Derived.Test.Qxb6603906aProg
import Derived.Test.Qxb6603906aPlain
import Derived.WalkKit
import Derived.WalkSpells
import Derived.WalkLawsBesides
import Derived.Lib.AppendStr
import Derived.Deep.LoopGhost
import Derived.Deep.DeepCutAuto
import Derived.Deep.CutBlock
import Derived.Deep.OwnRows
import Derived.Deep.QuietTactic
import Derived.BigQuiet
namespace Go.Proofs.Qxb6603906a
open Go.RowKit

theorem Try.info5 : (Try.prog.info? 5).map (fun i => (i.zero, i.size, i.bytes)) = some (some (.int .u8 0), 1, 1) := by kernel_rfl

/-- A string's bytes as numbers. -/
def bys (s : ByteArray) : List Int := s.data.toList.map fun b => (b.toNat : Int)
theorem bys_len (s : ByteArray) : (bys s).length = s.size := by unfold bys; rw [List.length_map, Array.length_toList]; rfl
theorem strCells_bys (s : ByteArray) : Lib.strCells s = (bys s).map (Value.int .u8) := by unfold Lib.strCells bys; rw [List.map_map]; rfl

/-- The numbers xs lie behind the address a (of the empty list nothing is said). -/
def Seg (w : World) (a : Option Addr) (xs : List Int) : Prop :=
  xs = [] ∨ ∃ b off, a = some ⟨b, off, none⟩ ∧ b < w.heap.size ∧ ∀ j, j < xs.length → w.cell? ⟨b, off + j, none⟩ = some (.int .u8 (xs.getD j 0))

theorem Seg.carry {w w' : World} {a : Option Addr} {xs : List Int} {B : Nat} (h : Seg w a xs) (hb : Below B w w') (hB : w.heap.size ≤ B) : Seg w' a xs := by
  rcases h with h | ⟨b, off, ha, hlt, hc⟩
  · exact .inl h
  · exact .inr ⟨b, off, ha, by have := hb.size; omega, fun j hj => (hb.cell (p := ⟨b, off + j, none⟩) (by show b < B; omega)).trans (hc j hj)⟩

/-- The value v owns the numbers H in blocks from B on. -/
def Own (B : Nat) (w : World) (v : Value) (H : List Int) : Prop := w.ownsRow B 5 1 v H.length (H.map (Value.int .u8))

theorem Own.shape {B : Nat} {w : World} {v : Value} {H : List Int} (h : Own B w v H) : ∃ ao cp, v = .slice ao H.length cp := by
  rcases h.2 with ⟨h1, h2⟩ | ⟨g, cp, _, h1, _⟩
  · exact ⟨none, 0, by rw [h1, h2]⟩
  · exact ⟨_, cp, h1⟩

theorem Own.seg {B : Nat} {w : World} {ao : Option Addr} {n cp : Nat} {H : List Int} (h : Own B w (.slice ao n cp) H) : Seg w ao H := by
  by_cases hz : H.length = 0
  · exact .inl (List.eq_nil_of_length_eq_zero hz)
  · rcases h.2 with ⟨_, h2⟩ | ⟨g, cp', cur, h1, hb, hg, hr⟩
    · omega
    · simp only [Value.slice.injEq] at h1
      refine .inr ⟨g, 0, h1.1, (Array.getElem?_eq_some_iff.1 hg).1, fun j hj => ?_⟩
      have := World.ownsRow.cells (g := g) h (by rw [h1.1]; rfl) j (.int .u8 (H.getD j 0)) (by simp [List.getD, hj])
      rw [Addr.add_lit] at this
      exact this

/-- zzCloneBytes: nil stays nil. -/
theorem clone_nil (w : World) : Calls Try.prog 6 #[.slice none 0 0] w fun e w' => e = .returned (.slice none 0 0) ∧ w' = w := by
  have hn : ∀ W, (binOp .eql 22 (.slice none 0 0) (.slice none 0 0)).run Try.prog W = .ok (.bool true) W := fun W => Lib.run_eql_slice_nil W _ _ none 0 0 0 0 Try.underlying22
  go_enter Try.func6, Try.ntmps6
  go_wp2
  go_ret
  exact ⟨rfl, rfl⟩

set_option maxHeartbeats 1000000 in
set_option maxRecDepth 1000000 in
theorem clone_some (x : Addr) (len cap : Nat) (xs : List Int) (w : World) (hl : xs.length = len) (hm : len ≤ 1048576) (hs : Seg w (some x) xs) :
    Calls Try.prog 6 #[.slice (some x) len cap] w fun e w' => e = .returned (.slice (some ⟨w.heap.size, 0, none⟩) len len) ∧ Below w.heap.size w w' ∧ Own w.heap.size w' (.slice (some ⟨w.heap.size, 0, none⟩) len len) xs := by
  have hn : ∀ W, (binOp .eql 22 (.slice (some x) len cap) (.slice none 0 0)).run Try.prog W = .ok (.bool false) W := fun W => Lib.run_eql_slice_nil W _ _ (some x) len cap 0 0 Try.underlying22
  have hmk := run_make_row' (P := Try.prog) 22 5 (.int .u8 0) 1 Try.underlying22 Try.info5 rfl .i64 .i64 len (by omega) (by omega)
  have HL : Hid (xs.length = len) := hl
  have HS : Hid (Seg w (some x) xs) := hs
  clear hl hs
  go_enter Try.func6, Try.ntmps6
  go_wp2_with fail
  clear hmk hn
  go_loopg [4] len (fun g s4 wx => ∃ k : Nat, k ≤ len ∧ g = len - k ∧ s4 = .int .i64 k ∧ wx.rowIs w.heap.size 5 len (fun j => if j < k then .int .u8 (xs.getD j 0) else .int .u8 0) ∧ Below w.heap.size w wx)
  case atStart =>
    refine ⟨0, Nat.zero_le _, rfl, rfl, (World.rowIs_made w (.int .u8 0) len 5).congr fun i _ => ?_, (Below.refl _ _).alloc (Nat.le_refl _) _⟩
    rw [if_neg (by omega)]
  case round =>
    obtain ⟨k, hk, rfl, rfl, hrow, hbel⟩ := hrel
    by_cases hkn : k < len
    · obtain ⟨b, off, hx, hb, hc⟩ : ∃ b off, some x = some ⟨b, off, none⟩ ∧ b < w.heap.size ∧ ∀ j, j < xs.length → w.cell? ⟨b, off + j, none⟩ = some (.int .u8 (xs.getD j 0)) := by
        rcases HS.out with h | h
        · have := HL.out; rw [h] at this; simp at this; omega
        · exact h
      simp only [Option.some.injEq] at hx
      subst hx
      have hkz : (k : Int) < (len : Int) := by omega
      have hck := (hbel.cell (p := ⟨b, off + k, none⟩) hb).trans (hc k (by rw [HL.out]; exact hkn))
      obtain ⟨y, hy⟩ : ∃ y, xs.getD k 0 = y := ⟨_, rfl⟩
      rw [hy] at hck
      have hcw := hrow.cell hkn
      have hfw := hrow.frozen k
      simp only [Nat.lt_irrefl, if_false] at hcw
      have HR : Hid (wr.rowIs w.heap.size 5 len (fun j => if j < k then .int .u8 (xs.getD j 0) else .int .u8 0)) := hrow
      have HY : Hid (xs.getD k 0 = y) := hy
      clear hc hy hrow
      go_wp2
      go_roundg (len - (k + 1))
      case measure => omega
      case rel =>
        refine ⟨k + 1, by omega, rfl, by go_num, (HR.out.set k (.int .u8 y)).congr fun i _ => ?_, hbel.setCell (by simp) _⟩
        by_cases hik : i = k
        · subst hik; rw [if_pos rfl, if_pos (by omega), HY.out]
        · rw [if_neg hik]
          by_cases h2 : i < k
          · rw [if_pos h2, if_pos (by omega)]
          · rw [if_neg h2, if_neg (by omega)]
    · have hkz : ¬ ((k : Int) < (len : Int)) := by omega
      go_wp2
      go_ret
      refine ⟨rfl, hbel, ?_⟩
      obtain ⟨c, hc1, hc2, hc3⟩ := hrow
      have hl := HL.out
      refine ⟨by simp, .inr ⟨w.heap.size, len, c, by rw [hl], Nat.le_refl _, hc1, by omega, by unfold maxLen; omega, by omega, ?_⟩⟩
      rw [Nat.mul_one, List.take_of_length_le (by simp; omega)]
      apply List.ext_getElem?
      intro j
      by_cases hj : j < len
      · have := hc3 j hj
        simp only [] at this
        rw [if_pos (by omega)] at this
        rw [Array.getElem?_toList, this]
        simp [List.getD, show j < xs.length by omega]
      · rw [List.getElem?_eq_none (by simp; omega), List.getElem?_eq_none (by simp; omega)]

theorem clone_any (a0 : Option Addr) (len cap : Nat) (xs : List Int) (w : World) (h0 : a0 = none → len = 0 ∧ cap = 0) (hl : xs.length = len) (hm : len ≤ 1048576) (hs : Seg w a0 xs) :
    Calls Try.prog 6 #[.slice a0 len cap] w fun e w' => ∃ a1 c1, e = .returned (.slice a1 len c1) ∧ Below w.heap.size w w' ∧ Own w.heap.size w' (.slice a1 len c1) xs ∧ (a1 = none → len = 0 ∧ c1 = 0) := by
  cases a0 with
  | none =>
    obtain ⟨rfl, rfl⟩ := h0 rfl
    refine (clone_nil w).mono fun e w' ⟨he, hw⟩ => ?_
    subst he; subst hw
    obtain rfl := List.eq_nil_of_length_eq_zero hl
    exact ⟨none, 0, rfl, Below.refl _ _, World.ownsRow_nil _ _ _ _, fun _ => ⟨rfl, rfl⟩⟩
  | some x =>
    refine (clone_some x len cap xs w hl hm hs).mono fun e w' ⟨he, hb, hs'⟩ => ?_
    subst he
    exact ⟨_, _, rfl, hb, hs', fun h => by cases h⟩
end Go.Proofs.Qxb6603906a
