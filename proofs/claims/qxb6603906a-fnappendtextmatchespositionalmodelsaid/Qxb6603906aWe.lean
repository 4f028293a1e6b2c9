import Derived.Test.Qxb6603906aWc
namespace Go.Proofs.Qxb6603906a
open Go.RowKit

theorem bys_get (s : ByteArray) (k : Nat) (h : k < s.size) : (bys s).getD k 48 = ((s[k]'h).toNat : Int) := by
  have hl : k < (bys s).length := by rw [bys_len]; exact h
  unfold bys at hl ⊢
  rw [List.getD_eq_getElem?_getD, List.getElem?_eq_getElem hl]
  simp only [List.getElem_map, Option.getD_some]
  rfl

theorem ret_u8 {a b : Int} (h : a = b) : Ending.returned (.int .u8 a) = .returned (.int .u8 b) := by rw [h]

set_option maxHeartbeats 400000 in
theorem dg_any (s : ByteArray) (hs : s.size ≤ 524288) (ex p : Int) (he1 : ex ≤ 65536) (he2 : -65536 ≤ ex) (hp1 : p ≤ 1048576) (hp2 : -1048576 ≤ p) (x : Int) (hx : x = Pl.dg (bys s) (ex - p)) (w : World) :
    Calls Try.prog 12 #[.string s, .int .i64 ex, .int .i64 p] w fun e w' => e = .returned (.int .u8 x) ∧ w = w' := by
  have HX : Hid (x = Pl.dg (bys s) (ex - p)) := hx
  clear hx
  by_cases h1 : 1 ≤ ex - p
  · by_cases h2 : ex - p ≤ (s.size : Int)
    · obtain ⟨k, hk⟩ : ∃ k : Nat, ex - p = (k : Int) + 1 := ⟨(ex - p - 1).toNat, by omega⟩
      have hks : k < s.size := by omega
      have HX2 : Hid (x = ((s[k]'hks).toNat : Int)) := by
        show x = _
        rw [HX.out]; unfold Pl.dg
        rw [if_pos (by rw [bys_len]; omega), show (ex - p - 1).toNat = k from by omega]
        exact bys_get s k hks
      clear HX h1 h2
      go_enter Try.func12, Try.ntmps12
      go_wp2
      go_ret
      exact ⟨ret_u8 HX2.out.symm, rfl⟩
    · have HX2 : Hid (x = 48) := by show x = _; rw [HX.out]; unfold Pl.dg; rw [if_neg (by rw [bys_len]; omega)]
      clear HX
      go_enter Try.func12, Try.ntmps12
      go_wp2
      go_ret
      exact ⟨ret_u8 HX2.out.symm, rfl⟩
  · have HX2 : Hid (x = 48) := by show x = _; rw [HX.out]; unfold Pl.dg; rw [if_neg (by omega)]
    clear HX
    have hd : decide (1 ≤ ex - p) = false := decide_eq_false h1
    go_enter Try.func12, Try.ntmps12
    go_wp2
    go_ret
    exact ⟨ret_u8 HX2.out.symm, rfl⟩
/-- One append onto an owned row. -/
theorem grew {B : Nat} {w0 w w1 : World} {v v' : Value} {H : List Int} {x : Int} {o : Obj} (hB : B ≤ w.heap.size) (hb0 : Below B w0 w) (hown : Own B w v H)
    (h1 : w1.ownsRow B 5 1 v' (H.length + 1) (H.map (Value.int .u8) ++ [.int .u8 x])) (hg : (w.alloc o).grownBy w1 v.ownBlock) :
    ∃ L : List Int, Hid (L = H ++ [x]) ∧ Own B w1 v' L ∧ Below B w0 w1 ∧ B ≤ w1.heap.size := by
  have hb : Below B w w1 := ((Below.refl B w).alloc hB o).grown hg (by simp; omega) (fun k e => (World.ownsRow.lt hown k e).1)
  exact ⟨_, rfl, by simpa [Own] using h1, hb0.trans hb, by have := hb.size; omega⟩

set_option maxHeartbeats 4000000 in
set_option maxRecDepth 1000000 in
theorem pos_any (neg : Bool) (s : ByteArray) (hs : s.size ≤ 524288) (ex : Int) (he1 : ex ≤ 65536) (he2 : -65536 ≤ ex) (w : World) :
    Calls Try.prog 7 #[.bool neg, .string s, .int .i64 ex] w fun e w' => ∃ v, e = .returned v ∧ ∃ L, Hid (L = Pl.text neg (bys s) ex) ∧ Own w.heap.size w' v L ∧ Below w.heap.size w w' := by
  obtain ⟨i0, hi, hz0, hz1, hz2⟩ := info_parts Try.info5
  obtain ⟨TX, hTX⟩ : ∃ TX, Pl.text neg (bys s) ex = TX := ⟨_, rfl⟩
  rw [hTX]
  have HTX : Hid (Pl.text neg (bys s) ex = TX) := hTX
  clear hTX
  by_cases hse : s.size = 0
  · have hz : ((s.size : Int) == 0) = true := by rw [hse]; rfl
    have HT2 : Hid (TX = [48]) := by show TX = _; rw [← HTX.out]; unfold Pl.text; rw [if_pos (bys_nil hse)]
    clear hse HTX
    go_enter Try.func7, Try.ntmps7
    go_wp2
    go_ret
    exact ⟨_, rfl, [48], HT2.out.symm, ⟨rfl, .inr ⟨w.heap.size, 1, _, rfl, Nat.le_refl _, heap_alloc_new w _, by decide, by unfold maxLen; omega, rfl, rfl⟩⟩, (Below.refl _ _).alloc (Nat.le_refl _) _⟩
  · have hz : ((s.size : Int) == 0) = false := beq_false_of_ne (by omega)
    have HT2 : Hid (TX = (if neg then [45] else []) ++ Pl.body (bys s) ex) := by show TX = _; rw [← HTX.out]; unfold Pl.text; rw [if_neg (bys_ne hse)]
    have HNE : Hid (bys s ≠ []) := bys_ne hse
    clear hse HTX
    have ho : Own w.heap.size w (.slice none 0 0) [] := World.ownsRow_nil _ _ _ _
    have hb := Below.refl w.heap.size w
    have hge := Nat.le_refl w.heap.size
    go_enter Try.func7, Try.ntmps7
    go_upto_if 18 with fail
    go_cut [8] (fun s8 wx => ∃ L : List Int, Hid (L = if neg then [45] else []) ∧ Own w.heap.size wx s8 L ∧ Below w.heap.size w wx ∧ w.heap.size ≤ wx.heap.size)
    case first =>
      cases neg with
      | false =>
        go_wp2
        go_meet
        exact ⟨[], rfl, ho, hb, hge⟩
      | true =>
        obtain ⟨NL, hNL⟩ : ∃ NL : List Int, NL = [] := ⟨_, rfl⟩
        rw [← hNL] at ho
        have HNL : Hid (NL = []) := hNL
        have hnl : NL.length ≤ 1 := by rw [hNL]; decide
        clear hNL
        go_wp2_with (at_builtin; refine wpList_append_own _ rfl (.tmp 19) (.tmp 20) 22 rfl w.heap.size 5 i0 (.int .u8 0) 1 1 Try.underlying22 hi hz0 hz1 hz2 rfl (by decide) _ NL.length (NL.map (Value.int .u8)) rfl (World.ownsRow.alloc ho _) ⟨w.heap.size, 0, none⟩ 1 1 [.int .u8 45] rfl rfl (cell_one_new _ _ _) (ints_oneCell .u8 [45]) (by unfold maxLen; omega) (by omega) (by simp <;> omega) ?_)
        intro v1 w1 ho1x hg1 _
        obtain ⟨L1, HL1, ho1, hb1, hge1⟩ := grew hge hb ho ho1x hg1
        clear ho1x hg1 ho hb hge
        go_wp2
        go_meet
        exact ⟨L1, (by rw [HL1.out, HNL.out]; rfl : L1 = _), ho1, hb1, hge1⟩
    case rest =>
      clear ho hb hge
      obtain ⟨L0, HL0, ho, hb, hge⟩ := hcut
      have hl0 : L0.length ≤ 1 := by rw [HL0.out]; cases neg <;> simp
      obtain ⟨top, htop⟩ : ∃ top : Nat, (top : Int) = if ex - 1 < 0 then 0 else ex - 1 := ⟨(if ex - 1 < 0 then 0 else ex - 1).toNat, by split <;> omega⟩
      have HB : Hid (TX = L0 ++ (Pl.dgs (bys s) (ex - top) (top + 1) ++ (if ex - s.size < 0 then 46 :: Pl.dgs (bys s) (ex + 1) (s.size - ex).toNat else []))) := by
        show TX = _
        rw [HT2.out, HL0.out, Pl.body_is (bys s) ex top htop HNE.out, bys_len]
      have htb : top ≤ 65536 := by split at htop <;> omega
      clear HT2 HNE
      go_upto_if 25 with fail
      go_cut [9] (fun s9 wx => wc = wx ∧ s9 = .int .i64 top)
      case first =>
        by_cases h0 : ex - 1 < 0
        · rw [if_pos h0] at htop
          have HTP : Hid ((top : Int) = 0) := htop
          clear htop
          go_wp2
          go_meet
          exact ⟨rfl, by rw [HTP.out]⟩
        · rw [if_neg h0] at htop
          have HTP : Hid ((top : Int) = ex - 1) := htop
          clear htop
          go_wp2
          go_meet
          exact ⟨rfl, by rw [HTP.out]⟩
      case rest =>
        have HTP : Hid ((top : Int) = if ex - 1 < 0 then 0 else ex - 1) := htop
        clear htop
        obtain ⟨rfl, rfl⟩ := hcut
        go_wp2_with fail
        go_loopg [8, 10] (top + 1) (fun g s8 s10 wx => ∃ (i : Nat) (L : List Int), i ≤ top + 1 ∧ g = top + 1 - i ∧ s10 = .int .i64 ((top : Int) - (i : Int)) ∧ Hid (L = L0 ++ Pl.dgs (bys s) (ex - top) i) ∧ Own w.heap.size wx s8 L ∧ Below w.heap.size w wx ∧ w.heap.size ≤ wx.heap.size)
        case atStart => exact ⟨0, L0, Nat.zero_le _, rfl, by go_num, (List.append_nil _).symm, ho, hb, hge⟩
        case round =>
          clear ho hb hge
          obtain ⟨i, L, hiN, rfl, rfl, HL, ho, hb, hge⟩ := hrel
          have hll : L.length ≤ 65538 := by rw [HL.out, List.length_append, Pl.dgs_len]; omega
          by_cases hlt : i < top + 1
          · have hzz : (0 : Int) ≤ (top : Int) - (i : Int) := by omega
            obtain ⟨x, hx⟩ : ∃ x, x = Pl.dg (bys s) (ex - ((top : Int) - (i : Int))) := ⟨_, rfl⟩
            have HX : Hid (x = Pl.dg (bys s) (ex - ((top : Int) - (i : Int)))) := hx
            clear hx
            go_wp2_with (first | (go_at_call 12; refine (dg_any s hs ex ((top : Int) - (i : Int)) he1 he2 (by omega) (by omega) x HX.out _).mono ?_; rintro e w9 ⟨rfl, rfl⟩) | (at_builtin; refine wpList_append_own _ rfl (.tmp 31) (.tmp 36) 22 rfl w.heap.size 5 i0 (.int .u8 0) 1 1 Try.underlying22 hi hz0 hz1 hz2 rfl (by decide) _ L.length (L.map (Value.int .u8)) rfl (World.ownsRow.alloc ho _) ⟨wr.heap.size, 0, none⟩ 1 1 [.int .u8 x] rfl rfl (cell_one_new _ _ _) (ints_oneCell .u8 [x]) (by unfold maxLen; omega) (by omega) (by simp <;> omega) ?_))
            intro v1 w1 ho1x hg1 _
            obtain ⟨L1, HL1, ho1, hb1, hge1⟩ := grew hge hb ho ho1x hg1
            clear ho1x hg1 ho hb hge
            go_wp2
            go_roundg (top + 1 - (i + 1))
            case measure => omega
            case rel => exact ⟨i + 1, L1, by omega, rfl, by go_num, (by rw [HL1.out, HL.out, HX.out, Pl.dgs_snoc, List.append_assoc, show ex - ((top : Int) - (i : Int)) = ex - (top : Int) + (i : Int) from by omega] : L1 = _), ho1, hb1, hge1⟩
          · have hzz : ¬ ((0 : Int) ≤ (top : Int) - (i : Int)) := by omega
            have HL1 : Hid (L = L0 ++ Pl.dgs (bys s) (ex - top) (top + 1)) := by rw [show top + 1 = i from by omega]; exact HL
            clear HL
            by_cases hlow : ex - (s.size : Int) < 0
            · have HB2 : Hid (TX = L ++ 46 :: Pl.dgs (bys s) (ex + 1) (s.size - ex).toNat) := by
                show TX = _
                rw [HB.out, if_pos hlow, HL1.out, List.append_assoc]
              clear HB HL1
              obtain ⟨K, hK⟩ : ∃ K : Nat, (K : Int) = s.size - ex := ⟨(s.size - ex).toNat, by omega⟩
              have HB3 : Hid (TX = L ++ 46 :: Pl.dgs (bys s) (ex + 1) K) := by rw [show (s.size - ex).toNat = K from by omega] at HB2; exact HB2
              have hK2 : K ≤ 600000 := by omega
              clear HB2
              have HKK : Hid ((K : Int) = s.size - ex) := hK
              clear hK
              go_wp2_with (at_builtin; refine wpList_append_own _ rfl (.tmp 43) (.tmp 44) 22 rfl w.heap.size 5 i0 (.int .u8 0) 1 1 Try.underlying22 hi hz0 hz1 hz2 rfl (by decide) _ L.length (L.map (Value.int .u8)) rfl (World.ownsRow.alloc ho _) ⟨wr.heap.size, 0, none⟩ 1 1 [.int .u8 46] rfl rfl (cell_one_new _ _ _) (ints_oneCell .u8 [46]) (by unfold maxLen; omega) (by omega) (by simp <;> omega) ?_)
              intro v2 w2 ho2x hg2 _
              obtain ⟨L2, HL2, ho2, hb2, hge2⟩ := grew hge hb ho ho2x hg2
              clear ho2x hg2 ho hb hge
              have hl2 : L2.length ≤ 65539 := by rw [HL2.out]; simp; omega
              go_wp2_with fail
              go_loopg [8, 12] K (fun g s8 s12 wx => ∃ (j : Nat) (M : List Int), j ≤ K ∧ g = K - j ∧ s12 = .int .i64 (-1 - (j : Int)) ∧ Hid (M = L2 ++ Pl.dgs (bys s) (ex + 1) j) ∧ Own w.heap.size wx s8 M ∧ Below w.heap.size w wx ∧ w.heap.size ≤ wx.heap.size)
              case atStart => exact ⟨0, L2, Nat.zero_le _, rfl, by go_num, (List.append_nil _).symm, ho2, hb2, hge2⟩
              case round =>
                clear ho2 hb2 hge2
                obtain ⟨j, M, hjN, rfl, rfl, HM, ho, hb, hge⟩ := hrel
                have hlm : M.length ≤ 700000 := by rw [HM.out, List.length_append, Pl.dgs_len]; omega
                by_cases hjt : j < K
                · have hzj : ex - (s.size : Int) ≤ -1 - (j : Int) := by have := HKK.out; omega
                  obtain ⟨x, hx⟩ : ∃ x, x = Pl.dg (bys s) (ex - (-1 - (j : Int))) := ⟨_, rfl⟩
                  have HX : Hid (x = Pl.dg (bys s) (ex - (-1 - (j : Int)))) := hx
                  clear hx
                  go_wp2_with (first | (go_at_call 12; refine (dg_any s hs ex (-1 - (j : Int)) he1 he2 (by omega) (by omega) x HX.out _).mono ?_; rintro e w9 ⟨rfl, rfl⟩) | (at_builtin; refine wpList_append_own _ rfl (.tmp 51) (.tmp 56) 22 rfl w.heap.size 5 i0 (.int .u8 0) 1 1 Try.underlying22 hi hz0 hz1 hz2 rfl (by decide) _ M.length (M.map (Value.int .u8)) rfl (World.ownsRow.alloc ho _) ⟨wr.heap.size, 0, none⟩ 1 1 [.int .u8 x] rfl rfl (cell_one_new _ _ _) (ints_oneCell .u8 [x]) (by unfold maxLen; omega) (by omega) (by simp <;> omega) ?_))
                  intro v3 w3 ho3x hg3 _
                  obtain ⟨L3, HL3, ho3, hb3, hge3⟩ := grew hge hb ho ho3x hg3
                  clear ho3x hg3 ho hb hge
                  go_wp2
                  go_roundg (K - (j + 1))
                  case measure => omega
                  case rel => exact ⟨j + 1, L3, by omega, rfl, by go_num, (by rw [HL3.out, HM.out, HX.out, Pl.dgs_snoc, List.append_assoc, show ex - (-1 - (j : Int)) = ex + 1 + (j : Int) from by omega] : L3 = _), ho3, hb3, hge3⟩
                · have hzj : ¬ (ex - (s.size : Int) ≤ -1 - (j : Int)) := by have := HKK.out; omega
                  go_wp2
                  go_ret
                  refine ⟨_, rfl, M, ?_, ho, hb⟩
                  show M = TX
                  rw [HM.out, HL2.out, HB3.out, show j = K from by omega]
                  simp
            · have HB2 : Hid (TX = L) := by
                show TX = _
                rw [HB.out, if_neg hlow, HL1.out, List.append_nil]
              clear HB HL1
              go_wp2
              go_ret
              exact ⟨_, rfl, L, HB2.out.symm, ho, hb⟩
end Go.Proofs.Qxb6603906a
