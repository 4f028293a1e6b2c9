import Derived.Test.Qxb6603850aWa
import Derived.Test.Qxb6603850aPlain
import Derived.Deep.DeepCutAuto
import Derived.Deep.CutBlock
namespace Go.Proofs.Qxb6603850a
open Go.RowKit

/-- The struct at block D: its header field holds v, which owns the numbers H in blocks behind D; its seq field holds sv; all below D is as in w0. -/
structure Dyn (w0 : World) (D : Nat) (sv : Value) (wr : World) (v : Value) (H : List Int) : Prop where
  hdr : wr.cell? ⟨D, 9, none⟩ = some v
  hfz : wr.frozen? ⟨D, 9, none⟩ = false
  seq : wr.cell? ⟨D, 12, none⟩ = some sv
  own : wr.ownsRow (D + 1) 43 1 v H.length (H.map (Value.int .u16))
  bel : Below D w0 wr
  lt : D < wr.heap.size

theorem Dyn.push {w0 : World} {D : Nat} {sv : Value} {wr : World} {v : Value} {H : List Int} (h : Dyn w0 D sv wr v H) (x : Int) (o : Obj) {v' : Value} {w1 : World}
    (hown : w1.ownsRow (D + 1) 43 1 v' (H.length + 1) (H.map (Value.int .u16) ++ [.int .u16 x])) (hgrow : (wr.alloc o).grownBy w1 v.ownBlock) :
    (w1.cell? ⟨D, 9, none⟩ = some v ∧ w1.frozen? ⟨D, 9, none⟩ = false ∧ ∃ g cap, v' = .slice (some ⟨g, 0, none⟩) (H.length + 1) cap) ∧ Dyn w0 D sv (w1.setCell ⟨D, 9, none⟩ v') v' (H ++ [x]) := by
  have hlt := h.lt
  have hne : some D ≠ v.ownBlock := by
    intro e
    have := h.own.lt D e.symm
    omega
  have hblk : w1.heap[D]? = wr.heap[D]? := by
    rw [hgrow.block D (by simp; omega) hne]
    exact Below.heap_alloc _ _ _ hlt
  have c9 : w1.cell? ⟨D, 9, none⟩ = some v := (World.cell?_of_block (a := ⟨D, 9, none⟩) hblk).trans h.hdr
  have f9 : w1.frozen? ⟨D, 9, none⟩ = false := (World.frozen?_of_block (a := ⟨D, 9, none⟩) hblk).trans h.hfz
  have c12 : w1.cell? ⟨D, 12, none⟩ = some sv := (World.cell?_of_block (a := ⟨D, 12, none⟩) hblk).trans h.seq
  have hb1 : Below D w0 w1 := (h.bel.alloc (by omega) o).grown hgrow (by simp; omega) (fun k e => by have := h.own.lt k e; omega)
  have hsz : D < w1.heap.size := by have := hgrow.size; simp at this; omega
  refine ⟨⟨c9, f9, ?_⟩, ?_⟩
  · rcases hown.2 with ⟨_, e⟩ | ⟨g, cap, _, e, _⟩
    · omega
    · exact ⟨g, cap, e⟩
  · refine ⟨World.cell?_setCell_same _ _ _ c9, by simpa using f9, ?_, ?_, hb1.setCell (by simp) _, by simpa [World.setCell] using hsz⟩
    · exact (World.cell?_setCell_other _ _ _ _ (by simp)).trans c12
    · have := ownsRow_setCell_below hown (a := ⟨D, 9, none⟩) (by simp) v'
      simpa using this

/-- Its own value stored anew. -/
theorem Dyn.again {w0 : World} {D : Nat} {sv : Value} {wr : World} {v : Value} {H : List Int} (h : Dyn w0 D sv wr v H) : Dyn w0 D sv (wr.setCell ⟨D, 9, none⟩ v) v H :=
  ⟨World.cell?_setCell_same _ _ _ h.hdr, by simpa using h.hfz, (World.cell?_setCell_other _ _ _ _ (by simp)).trans h.seq, ownsRow_setCell_below h.own (a := ⟨D, 9, none⟩) (by simp) v, h.bel.setCell (by simp) _, by simpa [World.setCell] using h.lt⟩

theorem or32 (a q : Int) (ha : 0 ≤ a) (ha' : a < 32) (hq : 0 ≤ q) (hq' : q < 2048) : bits .or .u16 a (q * 32) = a + 32 * q := by
  obtain ⟨A, rfl⟩ := Int.eq_ofNat_of_zero_le ha
  obtain ⟨Q, rfl⟩ := Int.eq_ofNat_of_zero_le hq
  have e : ((Q : Int) * 32) = ((Q * 32 : Nat) : Int) := by omega
  rw [e, u16_or_nat A (Q * 32) (by omega) (by omega)]
  have h := Nat.shiftLeft_add_eq_or_of_lt (show A < 2 ^ 5 by omega) Q
  rw [Nat.shiftLeft_eq, Nat.or_comm] at h
  have h2 : Q * 2 ^ 5 = Q * 32 := by omega
  rw [h2] at h
  omega

theorem and31 (a : Int) (ha : 0 ≤ a) (ha' : a < 65536) : bits .and .u16 a 31 = a % 32 := by
  obtain ⟨A, rfl⟩ := Int.eq_ofNat_of_zero_le ha
  have := u16_and_nat A 31 (by omega) (by omega)
  have h := Nat.and_two_pow_sub_one_eq_mod A 5
  simp at h
  simp at this
  rw [this, h]
  omega

theorem own_shape {w : World} {base : Nat} {e : TypeId} {size : Nat} {v : Value} {n : Nat} {xs : List Value} (h : w.ownsRow base e size v n xs) : ∃ ao cp, v = .slice ao n cp := by
  rcases h.2 with ⟨h1, h2⟩ | ⟨g, cp, _, h1, _⟩
  · exact ⟨none, 0, by rw [h1, h2]⟩
  · exact ⟨_, cp, h1⟩

theorem own_cells {w : World} {base : Nat} {e : TypeId} {v : Value} {n : Nat} {k : IntKind} {xs : List Int} (h : w.ownsRow base e 1 v n (xs.map (Value.int k))) (hn : 0 < n) :
    ∃ g cp, v = .slice (some ⟨g, 0, none⟩) n cp ∧ base ≤ g ∧ g < w.heap.size ∧ ∀ j, j < n → w.cell? ⟨g, j, none⟩ = some (.int k (xs.getD j 0)) := by
  have hl := h.1
  rcases h.2 with ⟨_, h2⟩ | ⟨g, cp, cur, h1, hb, hg, hr⟩
  · omega
  · refine ⟨g, cp, h1, hb, (Array.getElem?_eq_some_iff.1 hg).1, fun j hj => ?_⟩
    have hjx : j < xs.length := by simp at hl; omega
    have := h.cells (g := g) (by rw [h1]; rfl) j (.int k (xs.getD j 0)) (by simp [List.getD, hjx])
    rw [Addr.add_lit] at this
    simpa using this
end Go.Proofs.Qxb6603850a
