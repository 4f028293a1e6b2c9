import Derived.Test.Qxb6603850aProg
import Derived.WalkKit
import Derived.WalkSpells
import Derived.WalkLawsBesides
import Derived.Laws.CopyOwn
import Derived.Deep.LoopGhost
namespace Go.Proofs.Qxb6603850a
open Go.RowKit

theorem Try.info5 : (Try.prog.info? 5).map (fun i => (i.zero, i.size, i.bytes)) = some (some (.int .u8 0), 1, 1) := by kernel_rfl
theorem Try.info43 : (Try.prog.info? 43).map (fun i => (i.zero, i.size, i.bytes)) = some (some (.int .u16 0), 1, 2) := by kernel_rfl

/-- The numbers xs lie behind the address a (of the empty list nothing is said). -/
def Seg (k : IntKind) (w : World) (a : Option Addr) (xs : List Int) : Prop :=
  xs = [] ∨ ∃ b off, a = some ⟨b, off, none⟩ ∧ b < w.heap.size ∧ ∀ j, j < xs.length → w.cell? ⟨b, off + j, none⟩ = some (.int k (xs.getD j 0))

theorem Seg.carry {k : IntKind} {w w' : World} {a : Option Addr} {xs : List Int} {B : Nat} (h : Seg k w a xs) (hb : Below B w w') (hB : w.heap.size ≤ B) : Seg k w' a xs := by
  rcases h with h | ⟨b, off, ha, hlt, hc⟩
  · exact .inl h
  · exact .inr ⟨b, off, ha, by have := hb.size; omega, fun j hj => (hb.cell (p := ⟨b, off + j, none⟩) (by show b < B; omega)).trans (hc j hj)⟩

/-- zzCloneU8: nil stays nil. -/
theorem clone_nil (w : World) : Calls Try.prog 7 #[.slice none 0 0] w fun e w' => e = .returned (.slice none 0 0) ∧ w' = w := by
  have hn : ∀ W, (binOp .eql 22 (.slice none 0 0) (.slice none 0 0)).run Try.prog W = .ok (.bool true) W := fun W => Lib.run_eql_slice_nil W _ _ none 0 0 0 0 Try.underlying22
  go_enter Try.func7, Try.ntmps7
  go_wp2
  go_ret
  exact ⟨rfl, rfl⟩

set_option maxHeartbeats 400000 in
theorem clone_some (x : Addr) (len cap : Nat) (xs : List Int) (w : World) (hl : xs.length = len) (hm : len ≤ 1048576) (hs : Seg .u8 w (some x) xs) :
    Calls Try.prog 7 #[.slice (some x) len cap] w fun e w' => e = .returned (.slice (some ⟨w.heap.size, 0, none⟩) len len) ∧ Below w.heap.size w w' ∧ Seg .u8 w' (some ⟨w.heap.size, 0, none⟩) xs := by
  have hn : ∀ W, (binOp .eql 22 (.slice (some x) len cap) (.slice none 0 0)).run Try.prog W = .ok (.bool false) W := fun W => Lib.run_eql_slice_nil W _ _ (some x) len cap 0 0 Try.underlying22
  obtain ⟨i0, hi, hz0, hz1, hz2⟩ := info_parts Try.info5
  go_enter Try.func7, Try.ntmps7
  go_wp2_with (at_make; refine wpList_make_full _ rfl _ _ 22 rfl w.heap.size 5 i0 (.int .u8 0) 1 Try.underlying22 hi hz0 hz1 _ _ _ _ len rfl rfl rfl rfl (by rw [hz2]; omega) (by unfold maxLen; omega) (Nat.le_refl _) ?_)
  intro w1 hown hgrow
  obtain ⟨cur, hg, hcs⟩ : ∃ cur, w1.heap[w.heap.size]? = some (.cells cur 5 (0, 0)) ∧ cur.size = len := by
    rcases hown.2 with ⟨h, _⟩ | ⟨g, c, cur, hv, _, hg, _, _, hcs, _⟩
    · cases h
    · simp at hv; obtain ⟨rfl, rfl⟩ := hv; exact ⟨cur, hg, by simpa using hcs⟩
  have hb1 : Below w.heap.size w w1 := (Below.refl _ _).grown hgrow (Nat.le_refl _) (fun k h => by cases h)
  have hs1 := hs.carry hb1 (Nat.le_refl _)
  obtain ⟨w2, hrun, hb2, hs2⟩ : ∃ w2, (∀ ty, (Builtin.copy_ #[22, 22] ty #[.slice (some ⟨w.heap.size, 0, none⟩) len len, .slice (some x) len cap]).run Try.prog w1 = .ok (goInt len) w2) ∧ Below w.heap.size w w2 ∧ Seg .u8 w2 (some ⟨w.heap.size, 0, none⟩) xs := by
    rcases hs1 with rfl | ⟨b, off, ha, hlt, hc⟩
    · simp at hl
      subst hl
      exact ⟨w1, fun ty => run_copy_none w1 22 22 ty 5 _ _ 0 0 0 cap Try.underlying22 (by rw [hi]; simp [hz1]) (by simp), hb1, .inl rfl⟩
    · simp at ha
      subst ha
      have hml : (xs.map (Value.int .u8)).length = len := by simp [hl]
      have hr : ∀ ty, (Builtin.copy_ #[22, 22] ty #[.slice (some ⟨w.heap.size, 0, none⟩) len len, .slice (some ⟨b, off, none⟩) len cap]).run Try.prog w1 = .ok (goInt len) (w1.setRow w.heap.size (xs.map (Value.int .u8)).toArray) := by
        intro ty
        have := run_copy_row (P := Try.prog) w1 22 22 ty 5 w.heap.size 0 len len ⟨b, off, none⟩ len cap cur 5 (xs.map (Value.int .u8)) Try.underlying22 (by rw [hi]; simp [hz1]) hg (by simp [hl]) ?_ (by simp; omega) (ints_oneCell _ _)
        · rw [this, hml]
          have hd : cur.toList.drop (0 + len) = [] := by apply List.drop_eq_nil_of_le; simp; omega
          rw [hd]; simp
        · intro j v hj
          have hjl : j < xs.length := by have := (List.getElem?_eq_some_iff.1 hj).1; simpa using this
          rw [Addr.add_lit, hc j hjl]
          rw [← hj]; simp [List.getD, hjl]
      refine ⟨_, hr, below_setRow hb1 (Nat.le_refl _) _, .inr ⟨w.heap.size, 0, rfl, ?_, ?_⟩⟩
      · have := hb1.size
        have h2 := (Array.getElem?_eq_some_iff.1 hg).1
        simpa [World.setRow] using h2
      · intro j hj
        have h2 := setRow_heap w1 w.heap.size cur (xs.map (Value.int .u8)).toArray 5 _ hg
        rw [Nat.zero_add, cell_of_row _ _ _ _ _ _ h2]
        simp [List.getD, hj]
  clear hown hgrow hb1 hs1 hg hcs hs hl
  go_wp2
  go_ret
  exact ⟨rfl, hb2, hs2⟩
end Go.Proofs.Qxb6603850a
