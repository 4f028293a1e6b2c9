import Derived.Test.Qxb6603973aWa
import Derived.Laws.BytesArg
namespace Go.Proofs.Qxb6603973a
open Go.RowKit

theorem Try.info5 : (Try.prog.info? 5).map (fun i => (i.zero, i.size, i.bytes)) = some (some (.int .u8 0), 1, 1) := by kernel_rfl

/-- The value v owns the numbers H in blocks from B on. -/
def Own (B : Nat) (w : World) (v : Value) (H : List Int) : Prop := w.ownsRow B 5 1 v H.length (H.map (Value.int .u8))

theorem grew {B : Nat} {w0 w w1 : World} {v v' : Value} {H : List Int} {x : Int} {o : Obj} (hB : B ≤ w.heap.size) (hb0 : Below B w0 w) (hown : Own B w v H)
    (h1 : w1.ownsRow B 5 1 v' (H.length + 1) (H.map (Value.int .u8) ++ [.int .u8 x])) (hg : (w.alloc o).grownBy w1 v.ownBlock) :
    ∃ L : List Int, Hid (L = H ++ [x]) ∧ Own B w1 v' L ∧ Below B w0 w1 ∧ B ≤ w1.heap.size := by
  have hb : Below B w w1 := ((Below.refl B w).alloc hB o).grown hg (by simp; omega) (fun k e => (World.ownsRow.lt hown k e).1)
  exact ⟨_, rfl, by simpa [Own] using h1, hb0.trans hb, by have := hb.size; omega⟩

/-- How many signs stand before byte i's digits, its own dash not counted. -/
def pos (i : Nat) : Nat := 2 * i + (if 4 < i then 1 else 0) + (if 6 < i then 1 else 0) + (if 8 < i then 1 else 0) + (if 10 < i then 1 else 0)

def Good (L : List Int) : Prop := ∀ j, j < L.length → okAt j (L.getD j 0)
theorem Good.snoc {L : List Int} {x : Int} (h : Good L) (hx : okAt L.length x) : Good (L ++ [x]) := by
  intro j hj
  by_cases hjl : j < L.length
  · have := h j hjl
    simp [List.getD, List.getElem?_append_left hjl] at this ⊢
    exact this
  · have e : j = L.length := by simp at hj; omega
    subst e
    simpa [List.getD] using hx
theorem Good.nil : Good [] := fun j hj => by simp at hj

theorem pos_dash (i : Nat) (h : i = 4 ∨ i = 6 ∨ i = 8 ∨ i = 10) : dash (pos i) ∧ ¬ dash (pos i + 1) ∧ ¬ dash (pos i + 2) ∧ pos (i + 1) = pos i + 3 := by
  rcases h with h | h | h | h <;> subst h <;> unfold dash pos <;> simp
theorem pos_plain (i : Nat) (hi : i < 16) (h : ¬ (i = 4 ∨ i = 6 ∨ i = 8 ∨ i = 10)) : ¬ dash (pos i) ∧ ¬ dash (pos i + 1) ∧ pos (i + 1) = pos i + 2 := by
  unfold dash pos
  (repeat' split) <;> omega
theorem pos_le (i : Nat) (hi : i ≤ 16) : pos i ≤ 36 := by unfold pos; (repeat' split) <;> omega
theorem pos_16 : pos 16 = 36 := rfl

/-- The text that a list of good signs makes. -/
theorem str_good {L : List Int} (hl : L.length = 36) (h : Good L) : (strOfNums L).size = 36 ∧ ∀ j (hj : j < (strOfNums L).size), okAt j (((strOfNums L)[j]'hj).toNat : Int) := by
  refine ⟨by rw [strOfNums_size, hl], fun j hj => ?_⟩
  have hjl : j < L.length := by rw [strOfNums_size] at hj; exact hj
  have hg := h j hjl
  have e : (((strOfNums L)[j]'hj).toNat : Int) = L.getD j 0 := by
    have e1 : (strOfNums L)[j]'hj = UInt8.ofNat (L[j]).toNat := by
      show (strOfNums L).data[j]'_ = _
      have : (strOfNums L).data.toList[j]? = some (UInt8.ofNat (L[j]).toNat) := by rw [strOfNums_data]; simp [hjl]
      rw [Array.getElem?_toList] at this
      exact (Array.getElem?_eq_some_iff.1 this).2
    rw [e1]
    have hgd : L.getD j 0 = L[j] := by simp [List.getD, hjl]
    rw [hgd] at hg ⊢
    have hb : 0 ≤ L[j] ∧ L[j] ≤ 255 := by
      rcases hg with ⟨_, h⟩ | ⟨_, h⟩
      · omega
      · unfold hexP at h; omega
    rw [UInt8.toNat_ofNat']
    omega
  rw [e]; exact hg

set_option maxHeartbeats 4000000 in
set_option maxRecDepth 1000000 in
theorem fmt_any (c : Array Value) (xs : List Int) (hc : ∀ i, i < 16 → c[i]? = some (.int .u8 (xs.getD i 0))) (hxb : ∀ i, 0 ≤ xs.getD i 0 ∧ xs.getD i 0 ≤ 255) (up : Bool) (w : World) :
    Calls Try.prog 9 #[.agg c, .bool up] w fun e w' => ∃ t : ByteArray, e = .returned (.string t) ∧ Hid (t.size = 36 ∧ ∀ j (h : j < t.size), okAt j ((t[j]'h).toNat : Int)) ∧ Below w.heap.size w w' := by
  obtain ⟨i0, hi, hz0, hz1, hz2⟩ := info_parts Try.info5
  have HC : Hid (∀ i, i < 16 → (w.alloc (.cells c 23)).cell? ⟨w.heap.size, i, none⟩ = some (.int .u8 (xs.getD i 0))) := by
    intro i hi
    rw [cell_of_row _ _ _ c 23 (0, 0) (heap_alloc_new w _)]
    exact hc i hi
  have HXB : Hid (∀ i, 0 ≤ xs.getD i 0 ∧ xs.getD i 0 ≤ 255) := hxb
  have hb0 : Below w.heap.size w (w.alloc (.cells c 23)) := (Below.refl _ _).alloc (Nat.le_refl _) _
  have hs0 : w.heap.size + 1 ≤ (w.alloc (.cells c 23)).heap.size := by simp
  clear hc hxb
  go_enter Try.func9, Try.ntmps9
  go_upto_region 1 with fail
  generalize w.alloc (.cells c 23) = W1 at HC hb0 hs0 ⊢
  go_wp2_with (at_make; refine wpList_make_own _ rfl _ _ 30 rfl (w.heap.size + 1) 5 i0 (.int .u8 0) 1 Try.underlying30 hi hz0 hz1 _ _ _ 36 rfl rfl rfl (by rw [hz2]; omega) (by unfold maxLen; omega) hs0 ?_)
  intro w1 hown hgrow
  have hb1 : Below (w.heap.size + 1) W1 w1 := (Below.refl _ _).grown hgrow hs0 (fun k h => by cases h)
  have hs1 : w.heap.size + 1 ≤ w1.heap.size := by have := hb1.size; omega
  clear hgrow
  go_wp2_with fail
  go_loopg [5, 6] 16 (fun g s5 s6 wr => ∃ (i : Nat) (L : List Int), i ≤ 16 ∧ g = 16 - i ∧ s6 = .int .i64 i ∧ Hid (L.length = pos i ∧ Good L) ∧ Own (w.heap.size + 1) wr s5 L ∧ Below (w.heap.size + 1) W1 wr ∧ w.heap.size + 1 ≤ wr.heap.size)
  case atStart => exact ⟨0, [], by omega, rfl, rfl, ⟨rfl, Good.nil⟩, hown, hb1, hs1⟩
  case round =>
    clear hown hb1 hs1 hs0
    obtain ⟨i, L, hi16, rfl, rfl, HG, ho, hb, hge⟩ := hrel
    by_cases hin : i < 16
    · have hiz : (i : Int) < 16 := by omega
      have hi0 : (0 : Int) ≤ (i : Int) := by omega
      have hcx := HC.out i hin
      obtain ⟨x, hx⟩ : ∃ x, xs.getD i 0 = x := ⟨_, rfl⟩
      have hx0 := HXB.out i
      rw [hx] at hcx hx0
      clear hx
      obtain ⟨y, hy, hy0, hy1⟩ : ∃ y, bits .and .u8 x 15 = y ∧ 0 ≤ y ∧ y ≤ 15 := by
        refine ⟨_, rfl, ?_⟩
        rw [u8_and x 15 hx0.1 (by omega) (by omega) (by omega)]
        have : x.toNat &&& (15 : Int).toNat ≤ (15 : Int).toNat := Nat.and_le_right
        have e15 : (15 : Int).toNat = 15 := rfl
        rw [e15] at this ⊢
        omega
      have hll : L.length ≤ 36 := by rw [HG.out.1]; exact pos_le i (by omega)
      go_upto_region 5 with fail
      go_cut [25] (fun s25 wx => wr = wx ∧ s25 = .bool (decide (i = 4 ∨ i = 6 ∨ i = 8 ∨ i = 10)))
      case first =>
        by_cases e4 : i = 4
        · have b4 : ((i : Int) == 4) = true := by rw [e4]; rfl
          have HD : Hid (decide (i = 4 ∨ i = 6 ∨ i = 8 ∨ i = 10) = true) := decide_eq_true (by omega)
          clear e4
          go_wp2
          go_meet
          exact ⟨rfl, by rw [HD.out]⟩
        · have b4 : ((i : Int) == 4) = false := beq_false_of_ne (by omega)
          by_cases e6 : i = 6
          · have b6 : ((i : Int) == 6) = true := by rw [e6]; rfl
            have HD : Hid (decide (i = 4 ∨ i = 6 ∨ i = 8 ∨ i = 10) = true) := decide_eq_true (by omega)
            clear e4 e6
            go_wp2
            go_meet
            exact ⟨rfl, by rw [HD.out]⟩
          · have b6 : ((i : Int) == 6) = false := beq_false_of_ne (by omega)
            by_cases e8 : i = 8
            · have b8 : ((i : Int) == 8) = true := by rw [e8]; rfl
              have HD : Hid (decide (i = 4 ∨ i = 6 ∨ i = 8 ∨ i = 10) = true) := decide_eq_true (by omega)
              clear e4 e6 e8
              go_wp2
              go_meet
              exact ⟨rfl, by rw [HD.out]⟩
            · have b8 : ((i : Int) == 8) = false := beq_false_of_ne (by omega)
              by_cases e10 : i = 10
              · have b10 : ((i : Int) == 10) = true := by rw [e10]; rfl
                have HD : Hid (decide (i = 4 ∨ i = 6 ∨ i = 8 ∨ i = 10) = true) := decide_eq_true (by omega)
                clear e4 e6 e8 e10
                go_wp2
                go_meet
                exact ⟨rfl, by rw [HD.out]⟩
              · have b10 : ((i : Int) == 10) = false := beq_false_of_ne (by omega)
                have HD : Hid (decide (i = 4 ∨ i = 6 ∨ i = 8 ∨ i = 10) = false) := decide_eq_false (by omega)
                clear e4 e6 e8 e10
                go_wp2
                go_meet
                exact ⟨rfl, by rw [HD.out]⟩
      case rest =>
       obtain ⟨rfl, rfl⟩ := hcut
       obtain ⟨bd, hbd⟩ : ∃ bd, decide (i = 4 ∨ i = 6 ∨ i = 8 ∨ i = 10) = bd := ⟨_, rfl⟩
       rw [hbd]
       have HBD : Hid (decide (i = 4 ∨ i = 6 ∨ i = 8 ∨ i = 10) = bd) := hbd
       clear hbd
       go_upto_if 25 with fail
       go_cut [5, 25] (fun s5 s25 wx => ∃ M : List Int, Hid (Good M ∧ ¬ dash M.length ∧ ¬ dash (M.length + 1) ∧ pos (i + 1) = M.length + 2) ∧ M.length ≤ 37 ∧ Own (w.heap.size + 1) wx s5 M ∧ Below (w.heap.size + 1) W1 wx ∧ w.heap.size + 1 ≤ wx.heap.size)
       case first =>
        by_cases hd : i = 4 ∨ i = 6 ∨ i = 8 ∨ i = 10
        · have HP : Hid _ := pos_dash i hd
          obtain rfl : bd = true := by rw [← HBD.out]; exact decide_eq_true hd
          clear hd
          go_wp2_with (at_builtin; refine wpList_append_own _ rfl (.tmp 26) (.tmp 27) 30 rfl (w.heap.size + 1) 5 i0 (.int .u8 0) 1 1 Try.underlying30 hi hz0 hz1 hz2 rfl (by decide) _ L.length (L.map (Value.int .u8)) rfl (World.ownsRow.alloc ho _) ⟨wr.heap.size, 0, none⟩ 1 1 [.int .u8 45] rfl rfl (cell_one_new _ _ _) (ints_oneCell .u8 [45]) (by unfold maxLen; omega) (by omega) (by simp <;> omega) ?_)
          intro v1 w1 ho1x hg1 _
          obtain ⟨L1, HL1, ho1, hb1, hge1⟩ := grew hge hb ho ho1x hg1
          clear ho1x hg1 ho hb hge
          go_wp2
          go_meet
          refine ⟨L1, ?_, by rw [HL1.out]; simp; omega, ho1, hb1, hge1⟩
          obtain ⟨h1, h2, h3, h4⟩ := HP.out
          have hlen : L1.length = pos i + 1 := by rw [HL1.out, List.length_append, HG.out.1]; rfl
          refine ⟨?_, by rw [hlen]; exact h2, by rw [hlen]; exact h3, by rw [hlen, h4]⟩
          rw [HL1.out]
          exact HG.out.2.snoc (.inl ⟨by rw [HG.out.1]; exact h1, rfl⟩)
        · have HP : Hid _ := pos_plain i hin hd
          obtain rfl : bd = false := by rw [← HBD.out]; exact decide_eq_false hd
          clear hd
          go_wp2
          go_meet
          obtain ⟨h2, h3, h4⟩ := HP.out
          exact ⟨L, ⟨HG.out.2, by rw [HG.out.1]; exact h2, by rw [HG.out.1]; exact h3, by rw [HG.out.1]; exact h4⟩, by omega, ho, hb, hge⟩
       case rest =>
        clear ho hb hge HG hll
        obtain ⟨M, HM, hlm, ho, hb, hge⟩ := hcut
        have hcm := (hb.cell (p := ⟨w.heap.size, i, none⟩) (by show w.heap.size < w.heap.size + 1; omega)).trans hcx
        go_wp2_with fail
        refine (hex_any (x / 16) (by omega) (by omega) up _).mono ?_
        rintro e w9 ⟨x1, rfl, HX1, rfl⟩
        go_wp2_with (at_builtin; refine wpList_append_own _ rfl (.tmp 29) (.tmp 36) 30 rfl (w.heap.size + 1) 5 i0 (.int .u8 0) 1 1 Try.underlying30 hi hz0 hz1 hz2 rfl (by decide) _ M.length (M.map (Value.int .u8)) rfl (World.ownsRow.alloc ho _) ⟨wc.heap.size, 0, none⟩ 1 1 [.int .u8 x1] rfl rfl (cell_one_new _ _ _) (ints_oneCell .u8 [x1]) (by unfold maxLen; omega) (by omega) (by simp <;> omega) ?_)
        intro v1 w1 ho1x hg1 _
        obtain ⟨L1, HL1, ho1, hb1, hge1⟩ := grew hge hb ho ho1x hg1
        clear ho1x hg1 ho hb hge
        clear hcm
        have hcm := (hb1.cell (p := ⟨w.heap.size, i, none⟩) (by show w.heap.size < w.heap.size + 1; omega)).trans hcx
        have hl1 : L1.length ≤ 38 := by rw [HL1.out]; simp; omega
        go_wp2_with fail
        refine (hex_any y hy0 hy1 up _).mono ?_
        rintro e w9 ⟨x2, rfl, HX2, rfl⟩
        go_wp2_with (at_builtin; refine wpList_append_own _ rfl (.tmp 38) (.tmp 45) 30 rfl (w.heap.size + 1) 5 i0 (.int .u8 0) 1 1 Try.underlying30 hi hz0 hz1 hz2 rfl (by decide) _ L1.length (L1.map (Value.int .u8)) rfl (World.ownsRow.alloc ho1 _) ⟨w1.heap.size, 0, none⟩ 1 1 [.int .u8 x2] rfl rfl (cell_one_new _ _ _) (ints_oneCell .u8 [x2]) (by unfold maxLen; omega) (by omega) (by simp <;> omega) ?_)
        intro v2 w2 ho2x hg2 _
        obtain ⟨L2, HL2, ho2, hb2, hge2⟩ := grew hge1 hb1 ho1 ho2x hg2
        clear ho2x hg2 ho1 hb1 hge1
        go_wp2
        go_roundg (16 - (i + 1))
        case measure => omega
        case rel =>
          obtain ⟨h1, h2, h3, h4⟩ := HM.out
          have hlen : L1.length = M.length + 1 := by rw [HL1.out]; simp
          refine ⟨i + 1, L2, by omega, rfl, by go_num, ⟨by rw [HL2.out, h4]; simp [hlen], ?_⟩, ho2, hb2, hge2⟩
          rw [HL2.out]
          refine Good.snoc ?_ (.inr ⟨by rw [hlen]; exact h3, HX2.out⟩)
          rw [HL1.out]
          exact h1.snoc (.inr ⟨h2, HX1.out⟩)
    · have hiz : ¬ ((i : Int) < 16) := by omega
      have hi2 : i = 16 := by omega
      have hl36 : L.length = 36 := by rw [HG.out.1, hi2]; rfl
      obtain ⟨g, cp, hv, hg1, hg2⟩ : ∃ g cp, u5 = .slice (some ⟨g, 0, none⟩) 36 cp ∧ w.heap.size + 1 ≤ g ∧ ∀ j, j < 36 → wr.cell? ⟨g, 0 + j, none⟩ = some (.int .u8 (L.getD j 0)) := by
        rcases ho.2 with ⟨_, h2⟩ | ⟨g, cp, cur, h1, hbb, hg, hr⟩
        · omega
        · refine ⟨g, cp, by rw [h1, hl36], hbb, fun j hj => ?_⟩
          have := World.ownsRow.cells (g := g) ho (by rw [h1]; rfl) j (.int .u8 (L.getD j 0)) (by simp [List.getD, show j < L.length by omega])
          rw [Addr.add_lit] at this
          exact this
      subst hv
      have hconv := run_convert_bytes_arg (P := Try.prog) wr 30 5 Try.underlying30 Try.underlying5 g 0 36 cp L hl36 hg2 9 Try.underlying9
      have HT := str_good hl36 HG.out.2
      have HT2 : Hid ((strOfNums L).size = 36 ∧ ∀ j (hj : j < (strOfNums L).size), okAt j (((strOfNums L)[j]'hj).toNat : Int)) := HT
      have hbw : Below w.heap.size w wr := hb0.trans (hb.mono (by omega))
      clear HT hg2 ho HG hl36 hi2
      generalize strOfNums L = t at hconv HT2
      go_wp2
      go_ret
      exact ⟨t, rfl, HT2, hbw⟩
end Go.Proofs.Qxb6603973a
