import Derived.Test.Qxb6603906aWa
import Derived.Maps.AppendAt
namespace Go.Proofs.Qxb6603906a
open Go.RowKit

/-- append(b, s...), b owned: where the new slice lies. -/
theorem run_str_at (w : World) (base : Nat) (ty : TypeId) (i : TypeInfo) (hi : Try.prog.info? 5 = some i) (hz : i.zero = some (.int .u8 0)) (hsize : i.size = 1) (hby : i.bytes = 1)
    (v : Value) (n : Nat) (xs : List Value) (hown : w.ownsRow base 5 1 v n xs) (s : ByteArray) (hb : n + s.size ≤ 140737488355328) (hbase : base ≤ w.heap.size) :
    ∃ v' w', (Builtin.append_ #[22, 9] ty #[v, .string s]).run Try.prog w = .ok v' w' ∧ w'.ownsRow base 5 1 v' (n + s.size) (xs ++ Lib.strCells s) ∧ w.grownBy w' v.ownBlock ∧
      (v'.ownBlock = v.ownBlock ∨ v'.ownBlock = some w.heap.size) := by
  have h63 : n + s.size ≤ maxLen := by unfold maxLen; omega
  obtain ⟨v', w', hr, h2, h3, h4⟩ := Lib.run_append_own_string (P := Try.prog) w base 22 9 ty 5 i Try.underlying22 Try.underlying9 hi hz hsize hby v n xs hown s h63 hb hbase
  refine ⟨v', w', hr, h2, h3, ?_⟩
  rcases hown.2 with ⟨hv, hn⟩ | ⟨g, cap, cur, hv, _, hg, _, _, hcs, _⟩
  · subst hv
    by_cases h0 : s.size = 0
    · rw [h4.2 ⟨rfl, h0⟩]; exact .inl rfl
    · have hr2 := run_append_nil_string (P := Try.prog) w 22 9 ty 5 i (.int .u8 0) Try.underlying22 Try.underlying9 hi hz s (by omega) (by omega) (by rw [hby]; omega)
      rw [hr2] at hr
      injection hr with e1 _
      rw [← e1]; exact .inr rfl
  · subst hv
    by_cases hroom : n + s.size ≤ cap
    · have hr2 := Lib.run_append_room_string (P := Try.prog) w 22 9 ty 5 i Try.underlying22 Try.underlying9 hi hsize g n cap cur hg s hroom (by omega)
      rw [hr2] at hr
      injection hr with e1 _
      rw [← e1]; exact .inl rfl
    · have hr2 := Lib.run_append_grow_string (P := Try.prog) w 22 9 ty 5 i (.int .u8 0) Try.underlying22 Try.underlying9 hi hz ⟨g, 0, none⟩ n cap xs (by rw [hsize]; exact hown.1) (hown.cells rfl) s (by omega) (by omega) (by rw [hby]; exact growslice_fits (by omega) (by omega))
      rw [hr2] at hr
      injection hr with e1 _
      rw [← e1]; exact .inr rfl

theorem wpList_str_at (w : World) {ops : Array Oper} {rest : List Oper} {o : Oper} {a : Act} {Q : Exit → Act → World → Prop} (hgd : o.guard = none) (sl x : Operand)
    (ho : o.op = .call { callee := .builtin .append, args := #[sl, x], argTypes := #[22, 9] }) (base : Nat) (i : TypeInfo) (hi : Try.prog.info? 5 = some i) (hz : i.zero = some (.int .u8 0)) (hsize : i.size = 1) (hby : i.bytes = 1)
    (v : Value) (n : Nat) (xs : List Value) (hs : a.eval sl = v) (hown : w.ownsRow base 5 1 v n xs) (s : ByteArray) (hx : a.eval x = .string s) (hb : n + s.size ≤ 140737488355328) (hbase : base ≤ w.heap.size)
    (h : ∀ v' w', w'.ownsRow base 5 1 v' (n + s.size) (xs ++ Lib.strCells s) → w.grownBy w' v.ownBlock → (v'.ownBlock = v.ownBlock ∨ v'.ownBlock = some w.heap.size) → wpList Try.prog ops Q rest (a.put o.dst v') w') : wpList Try.prog ops Q (o :: rest) a w := by
  refine wpList_plain hgd fun K hK => ?_
  obtain ⟨v', w', hr, h2, h3, h4⟩ := run_str_at w base o.type i hi hz hsize hby v n xs hown s hb hbase
  unfold Oper.wp execOp
  simp only [ho, resolve, invoke, builtin, Sem.run_bind, Sem.run_pure, Result.andThen_ok, List.map_toArray, List.map_cons, List.map_nil, hs, hx, hr]
  exact hK _ _ (h v' w' h2 h3 h4)

/-- WHERE AppendText STANDS: its own copy of the number lies whole in block N; v owns the numbers H in blocks from B on; of the blocks that were there at the call only v0's row may have turned. -/
structure St (w0 : World) (v0 : Value) (B N : Nat) (neg : Bool) (s : ByteArray) (e : Int) (wr : World) (v : Value) (H : List Int) : Prop where
  box : wr.heap[N]? = some (.cells #[.bool neg, .string s, .int .i64 e] 27 (0, 0))
  own : Own B wr v H
  gr : w0.grownBy wr v0.ownBlock
  lies : v.ownBlock = v0.ownBlock ∨ ∃ k, v.ownBlock = some k ∧ w0.heap.size ≤ k
  le : B ≤ N

section
variable {w0 : World} {v0 : Value} {B N : Nat} {neg : Bool} {s : ByteArray} {e : Int} {wr : World} {v : Value} {H : List Int}

theorem St.lt (h : St w0 v0 B N neg s e wr v H) : N < wr.heap.size := (Array.getElem?_eq_some_iff.1 h.box).1
theorem St.ge (h : St w0 v0 B N neg s e wr v H) : B ≤ wr.heap.size := by have := h.lt; have := h.le; omega
theorem St.c0 (h : St w0 v0 B N neg s e wr v H) : wr.cell? ⟨N, 0, none⟩ = some (.bool neg) := by rw [cell_of_row _ _ _ _ _ _ h.box]; rfl
theorem St.c1 (h : St w0 v0 B N neg s e wr v H) : wr.cell? ⟨N, 1, none⟩ = some (.string s) := by rw [cell_of_row _ _ _ _ _ _ h.box]; rfl
theorem St.c2 (h : St w0 v0 B N neg s e wr v H) : wr.cell? ⟨N, 2, none⟩ = some (.int .i64 e) := by rw [cell_of_row _ _ _ _ _ _ h.box]; rfl

theorem St.ne (h : St w0 v0 B N neg s e wr v H) : some N ≠ v.ownBlock := by
  intro he
  rcases h.own.2 with ⟨hv, _⟩ | ⟨g, cp, cur, hv, _, hg, _⟩
  · rw [hv] at he; cases he
  · rw [hv] at he
    simp [Value.ownBlock] at he
    subst he
    rw [h.box] at hg
    simp at hg

theorem St.grew {w1 : World} {v1 : Value} {M : List Int} (h : St w0 v0 B N neg s e wr v H) (hg : wr.grownBy w1 v.ownBlock) (ho : Own B w1 v1 M) (hat : v1.ownBlock = v.ownBlock ∨ ∃ k, v1.ownBlock = some k ∧ wr.heap.size ≤ k) : St w0 v0 B N neg s e w1 v1 M := by
  have hsz := h.gr.size
  refine ⟨(hg.block N h.lt h.ne).trans h.box, ho, ⟨hg.os.trans h.gr.os, hg.tape.trans h.gr.tape, hg.output.trans h.gr.output, Nat.le_trans h.gr.size hg.size, fun k hk hne => ?_⟩, ?_, h.le⟩
  · rw [hg.block k (by omega) ?_, h.gr.block k hk hne]
    rcases h.lies with e | ⟨k', e, hk'⟩
    · rw [e]; exact hne
    · rw [e]; simp; omega
  · rcases hat with e | ⟨k, e, hk⟩
    · rw [e]; exact h.lies
    · exact .inr ⟨k, e, by omega⟩

theorem St.alloc (h : St w0 v0 B N neg s e wr v H) (o : Obj) : St w0 v0 B N neg s e (wr.alloc o) v H :=
  ⟨(Below.heap_alloc _ _ _ h.lt).trans h.box, World.ownsRow.alloc h.own o, h.gr.trans (World.grownBy_alloc _ _ _), h.lies, h.le⟩

theorem St.push {w1 : World} {v1 : Value} {x : Int} {o : Obj} {n : Nat} (h : St w0 v0 B N neg s e wr v H) (h1 : w1.ownsRow B 5 1 v1 (H.length + 1) (H.map (Value.int .u8) ++ [.int .u8 x])) (hg : (wr.alloc o).grownBy w1 v.ownBlock)
    (hat : v1.ownBlock = v.ownBlock ∨ v1.ownBlock = some n) (hn : n = wr.heap.size + 1) : ∃ L, Hid (L = H ++ [x]) ∧ St w0 v0 B N neg s e w1 v1 L :=
  ⟨_, rfl, (h.alloc o).grew hg (by simpa [Own] using h1) (by rcases hat with e | e; (· exact .inl e); (· exact .inr ⟨n, e, by simp; omega⟩))⟩

theorem St.pushStr {w1 : World} {v1 : Value} (t : ByteArray) {n m : Nat} (hn : n = t.size) (h : St w0 v0 B N neg s e wr v H) (h1 : w1.ownsRow B 5 1 v1 (H.length + n) (H.map (Value.int .u8) ++ Lib.strCells t)) (hg : wr.grownBy w1 v.ownBlock)
    (hat : v1.ownBlock = v.ownBlock ∨ v1.ownBlock = some m) (hm : m = wr.heap.size) : ∃ L, Hid (L = H ++ bys t) ∧ St w0 v0 B N neg s e w1 v1 L :=
  ⟨_, rfl, h.grew hg (by rw [strCells_bys, hn] at h1; simpa [Own, bys_len] using h1) (by rcases hat with e | e; (· exact .inl e); (· exact .inr ⟨m, e, by omega⟩))⟩
end

theorem empty_yes {s : ByteArray} (h : s.size = 0) : s.toList.isEmpty = true := by
  rw [ByteArray.toList_eq, List.isEmpty_iff]
  exact List.eq_nil_of_length_eq_zero (by rw [Array.length_toList]; exact h)
theorem empty_no {s : ByteArray} (h : ¬ s.size = 0) : s.toList.isEmpty = false := by
  rw [ByteArray.toList_eq, List.isEmpty_eq_false_iff]
  intro e
  have : s.data.toList.length = 0 := by rw [e]; rfl
  rw [Array.length_toList] at this
  exact h this
theorem bys_nil {s : ByteArray} (h : s.size = 0) : bys s = [] := List.eq_nil_of_length_eq_zero (by rw [bys_len]; exact h)
theorem bys_ne {s : ByteArray} (h : ¬ s.size = 0) : bys s ≠ [] := by intro e; have := bys_len s; rw [e] at this; exact h this.symm
theorem bys_take (s : ByteArray) (k : Nat) : bys (s.extract 0 k) = (bys s).take k := by
  unfold bys; rw [← List.map_take]; congr 1; simp [ByteArray.data_extract]
theorem bys_drop (s : ByteArray) (k : Nat) : bys (s.extract k s.size) = (bys s).drop k := by
  unfold bys; rw [← List.map_drop]; congr 1
  rw [ByteArray.data_extract, Array.toList_extract]
  have : s.size = s.data.toList.length := by rw [Array.length_toList]; rfl
  simp
  exact List.take_of_length_le (by rw [List.length_drop]; omega)
theorem bys_lit : bys { data := #[48, 46] } = [48, 46] := rfl

set_option maxHeartbeats 4000000 in
set_option maxRecDepth 1000000 in
theorem text_any (B : Nat) (neg : Bool) (s : ByteArray) (ex : Int) (hs : s.size ≤ 524288) (he1 : ex ≤ 65536) (he2 : -65536 ≤ ex) (v : Value) (H : List Int) (hH : H.length ≤ 1048576) (w : World) (hB : B ≤ w.heap.size) (hown : Own B w v H) :
    Calls Try.prog 9 #[.agg #[.bool neg, .string s, .int .i64 ex], v] w fun e w' => ∃ v', e = .returned v' ∧ ∃ L, Hid (L = H ++ Pl.text neg (bys s) ex) ∧ Own B w' v' L ∧ w.grownBy w' v.ownBlock := by
  obtain ⟨i0, hi, hz0, hz1, hz2⟩ := info_parts Try.info5
  have hst : St w v B w.heap.size neg s ex (w.alloc (.cells #[.bool neg, .string s, .int .i64 ex] 27)) v H :=
    ⟨heap_alloc_new w _, World.ownsRow.alloc hown _, World.grownBy_alloc _ _ _, .inl rfl, hB⟩
  obtain ⟨TX, hTX⟩ : ∃ TX, Pl.text neg (bys s) ex = TX := ⟨_, rfl⟩
  rw [hTX]
  have HTX : Hid (Pl.text neg (bys s) ex = TX) := hTX
  clear hTX
  by_cases hse : s.size = 0
  · have hem := empty_yes hse
    have HT2 : Hid (TX = [48]) := by show TX = _; rw [← HTX.out]; unfold Pl.text; rw [if_pos (bys_nil hse)]
    clear hse
    go_enter Try.func9, Try.ntmps9
    go_upto_if 7 with fail
    generalize w.alloc (.cells #[.bool neg, .string s, .int .i64 ex] 27) = W1 at hst ⊢
    go_wp2_with (at_builtin; refine wpList_append_own_at _ rfl (.tmp 8) (.tmp 9) 22 rfl B 5 i0 (.int .u8 0) 1 1 Try.underlying22 hi hz0 hz1 hz2 rfl (by decide) _ H.length (H.map (Value.int .u8)) rfl (World.ownsRow.alloc hst.own _) ⟨W1.heap.size, 0, none⟩ 1 1 [.int .u8 48] rfl rfl (cell_one_new _ _ _) (ints_oneCell .u8 [48]) (by unfold maxLen; omega) (by omega) (by have := hst.ge; simp; omega) ?_)
    intro v1 w1 ho1 hg1 _ ha1
    obtain ⟨L1, HL1, hst1⟩ := hst.push ho1 hg1 ha1 (by simp)
    clear ho1 hg1 ha1 hst
    go_wp2
    go_ret
    exact ⟨_, rfl, L1, (by rw [HL1.out, HT2.out] : L1 = H ++ TX), hst1.own, hst1.gr⟩
  · have hem := empty_no hse
    have HT2 : Hid (TX = (if neg then [45] else []) ++ Pl.body (bys s) ex) := by show TX = _; rw [← HTX.out]; unfold Pl.text; rw [if_neg (bys_ne hse)]
    have hsp : 0 < s.size := by omega
    clear hse
    go_enter Try.func9, Try.ntmps9
    go_upto_if 7 with fail
    generalize w.alloc (.cells #[.bool neg, .string s, .int .i64 ex] 27) = W1 at hst ⊢
    have c0 := hst.c0
    go_upto_if 12 with fail
    go_cut [1] (fun s1 wx => ∃ L : List Int, Hid (L = H ++ (if neg then [45] else [])) ∧ St w v B w.heap.size neg s ex wx s1 L)
    case first =>
      cases neg with
      | false =>
        go_wp2
        go_meet
        exact ⟨H, (List.append_nil H).symm, hst⟩
      | true =>
        go_wp2_with (at_builtin; refine wpList_append_own_at _ rfl (.tmp 13) (.tmp 14) 22 rfl B 5 i0 (.int .u8 0) 1 1 Try.underlying22 hi hz0 hz1 hz2 rfl (by decide) _ H.length (H.map (Value.int .u8)) rfl (World.ownsRow.alloc hst.own _) ⟨W1.heap.size, 0, none⟩ 1 1 [.int .u8 45] rfl rfl (cell_one_new _ _ _) (ints_oneCell .u8 [45]) (by unfold maxLen; omega) (by omega) (by have := hst.ge; simp; omega) ?_)
        intro v1 w1 ho1 hg1 _ ha1
        obtain ⟨L1, HL1, hst1⟩ := hst.push ho1 hg1 ha1 (by simp)
        clear ho1 hg1 ha1 hst
        go_wp2
        go_meet
        exact ⟨L1, HL1, hst1⟩
    case rest =>
      clear c0 hst
      obtain ⟨L0, HL0, hst⟩ := hcut
      have hl0 : L0.length ≤ 1048577 := by rw [HL0.out]; cases neg <;> simp <;> omega
      have HT3 : Hid (H ++ TX = L0 ++ Pl.body (bys s) ex) := by show H ++ TX = _; rw [HT2.out, HL0.out, List.append_assoc]
      clear HT2 HTX HL0
      obtain ⟨BD, hBD⟩ : ∃ BD, Pl.body (bys s) ex = BD := ⟨_, rfl⟩
      have HBD : Hid (BD = Pl.body (bys s) ex) := hBD.symm
      rw [hBD] at HT3
      clear hBD
      have c2 := hst.c2; have c1 := hst.c1
      by_cases h0 : ex ≤ 0
      · have HB2 : Hid (BD = 48 :: 46 :: (List.replicate (-ex).toNat 48 ++ bys s)) := by show BD = _; rw [HBD.out]; unfold Pl.body; rw [if_pos h0]
        clear HBD
        go_wp2_with (at_builtin; refine wpList_str_at _ rfl (.tmp 37) _ rfl B i0 hi hz0 hz1 hz2 _ L0.length (L0.map (Value.int .u8)) rfl hst.own { data := #[48, 46] } rfl (by show L0.length + 2 ≤ _; omega) hst.ge ?_)
        intro v1 w1 ho1 hg1 ha1
        obtain ⟨L1, HL1, hst1⟩ := hst.pushStr { data := #[48, 46] } (by first | rfl | (rw [ByteArray.size_extract]; omega)) ho1 hg1 ha1 rfl
        clear ho1 hg1 ha1 hst
        clear c1 c2
        have c1 := hst1.c1; have c2 := hst1.c2
        have hl1 : L1.length ≤ 1048579 := by rw [HL1.out, bys_lit]; simp; omega
        go_wp2_with fail
        obtain ⟨m, hm⟩ : ∃ m : Nat, -ex = (m : Int) := ⟨(-ex).toNat, by omega⟩
        rw [hm]
        have hm2 : m ≤ 65536 := by omega
        rw [hm] at HB2
        have HB3 : Hid (BD = 48 :: 46 :: (List.replicate m 48 ++ bys s)) := HB2
        clear HB2 hm c2
        go_loopg [1, 42] m (fun g s1 s42 wx => ∃ (i : Nat) (L : List Int), i ≤ m ∧ g = m - i ∧ s42 = .int .i64 i ∧ Hid (L = L1 ++ List.replicate i 48) ∧ St w v B w.heap.size neg s ex wx s1 L)
        case atStart => exact ⟨0, L1, Nat.zero_le _, rfl, rfl, (List.append_nil _).symm, hst1⟩
        case round =>
          clear hst1 c1
          obtain ⟨i, L, him, rfl, rfl, HL, hst⟩ := hrel
          have hll : L.length ≤ 1200000 := by rw [HL.out]; simp; omega
          by_cases hlt : i < m
          · have hz : (i : Int) < (m : Int) := by omega
            go_wp2_with (at_builtin; refine wpList_append_own_at _ rfl (.tmp 44) (.tmp 45) 22 rfl B 5 i0 (.int .u8 0) 1 1 Try.underlying22 hi hz0 hz1 hz2 rfl (by decide) _ L.length (L.map (Value.int .u8)) rfl (World.ownsRow.alloc hst.own _) ⟨wr.heap.size, 0, none⟩ 1 1 [.int .u8 48] rfl rfl (cell_one_new _ _ _) (ints_oneCell .u8 [48]) (by unfold maxLen; omega) (by omega) (by have := hst.ge; simp; omega) ?_)
            intro v2 w2 ho2 hg2 _ ha2
            obtain ⟨L2, HL2, hst2⟩ := hst.push ho2 hg2 ha2 (by simp)
            clear ho2 hg2 ha2 hst
            go_wp2
            go_roundg (m - (i + 1))
            case measure => omega
            case rel => exact ⟨i + 1, L2, by omega, rfl, by go_num, (by rw [HL2.out, HL.out, List.replicate_succ', List.append_assoc] : L2 = _), hst2⟩
          · have hz : ¬ ((i : Int) < (m : Int)) := by omega
            have him2 : i = m := by omega
            have c1 := hst.c1
            go_wp2_with (at_builtin; refine wpList_str_at _ rfl (.tmp 48) (.tmp 50) rfl B i0 hi hz0 hz1 hz2 _ L.length (L.map (Value.int .u8)) rfl hst.own s rfl (by omega) hst.ge ?_)
            intro v2 w2 ho2 hg2 ha2
            obtain ⟨L2, HL2, hst2⟩ := hst.pushStr s (by first | rfl | (rw [ByteArray.size_extract]; omega)) ho2 hg2 ha2 rfl
            clear ho2 hg2 ha2 hst
            go_wp2
            go_ret
            refine ⟨_, rfl, L2, ?_, hst2.own, hst2.gr⟩
            show L2 = H ++ TX
            rw [HT3.out, HL2.out, HL.out, HL1.out, HB3.out, him2, bys_lit]
            simp
      · have h0z : 0 < ex := by omega
        by_cases h1 : ex < (s.size : Int)
        · have HB2 : Hid (BD = (bys s).take ex.toNat ++ 46 :: (bys s).drop ex.toNat) := by show BD = _; rw [HBD.out]; unfold Pl.body; rw [if_neg h0, if_pos (by rw [bys_len]; exact h1)]
          clear HBD
          obtain ⟨m, rfl⟩ : ∃ m : Nat, ex = (m : Int) := ⟨ex.toNat, by omega⟩
          rw [Int.toNat_natCast] at HB2
          have hx1 : (s.extract 0 m).size ≤ 524288 := by rw [ByteArray.size_extract]; omega
          have hx2 : (s.extract m s.size).size ≤ 524288 := by rw [ByteArray.size_extract]; omega
          have HX1 : Hid ((s.extract 0 m).size ≤ 524288) := hx1
          have HX2 : Hid ((s.extract m s.size).size ≤ 524288) := hx2
          clear hx1 hx2
          go_wp2_with (at_builtin; refine wpList_str_at _ rfl (.tmp 59) (.tmp 64) rfl B i0 hi hz0 hz1 hz2 _ L0.length (L0.map (Value.int .u8)) rfl hst.own (s.extract 0 m) rfl (by have := HX1.out; omega) hst.ge ?_)
          intro v1 w1 ho1 hg1 ha1
          obtain ⟨L1, HL1, hst1⟩ := hst.pushStr (s.extract 0 m) (by first | rfl | (rw [ByteArray.size_extract]; omega)) ho1 hg1 ha1 rfl
          clear ho1 hg1 ha1 hst
          clear c1 c2
          have c1 := hst1.c1; have c2 := hst1.c2
          have hl1 : L1.length ≤ 1600000 := by rw [HL1.out, bys_take]; simp [bys_len]; omega
          go_wp2_with (at_builtin; refine wpList_append_own_at _ rfl (.tmp 66) (.tmp 67) 22 rfl B 5 i0 (.int .u8 0) 1 1 Try.underlying22 hi hz0 hz1 hz2 rfl (by decide) _ L1.length (L1.map (Value.int .u8)) rfl (World.ownsRow.alloc hst1.own _) ⟨w1.heap.size, 0, none⟩ 1 1 [.int .u8 46] rfl rfl (cell_one_new _ _ _) (ints_oneCell .u8 [46]) (by unfold maxLen; omega) (by omega) (by have := hst1.ge; simp; omega) ?_)
          intro v2 w2 ho2 hg2 _ ha2
          obtain ⟨L2, HL2, hst2⟩ := hst1.push ho2 hg2 ha2 (by simp)
          clear ho2 hg2 ha2 hst1
          clear c1 c2
          have c1 := hst2.c1; have c2 := hst2.c2
          have hl2 : L2.length ≤ 1600001 := by rw [HL2.out]; simp; omega
          go_wp2_with (at_builtin; refine wpList_str_at _ rfl (.tmp 69) (.tmp 74) rfl B i0 hi hz0 hz1 hz2 _ L2.length (L2.map (Value.int .u8)) rfl hst2.own (s.extract m s.size) rfl (by have := HX2.out; omega) hst2.ge ?_)
          intro v3 w3 ho3 hg3 ha3
          obtain ⟨L3, HL3, hst3⟩ := hst2.pushStr (s.extract m s.size) (by first | rfl | (rw [ByteArray.size_extract]; omega)) ho3 hg3 ha3 rfl
          clear ho3 hg3 ha3 hst2
          go_wp2
          go_ret
          refine ⟨_, rfl, L3, ?_, hst3.own, hst3.gr⟩
          show L3 = H ++ TX
          rw [HT3.out, HL3.out, HL2.out, HL1.out, HB2.out, bys_take, bys_drop]
          simp
        · have HB2 : Hid (BD = bys s ++ List.replicate (ex - s.size).toNat 48) := by show BD = _; rw [HBD.out]; unfold Pl.body; rw [if_neg h0, if_neg (by rw [bys_len]; exact h1), bys_len]
          clear HBD
          go_wp2_with (at_builtin; refine wpList_str_at _ rfl (.tmp 16) (.tmp 18) rfl B i0 hi hz0 hz1 hz2 _ L0.length (L0.map (Value.int .u8)) rfl hst.own s rfl (by omega) hst.ge ?_)
          intro v1 w1 ho1 hg1 ha1
          obtain ⟨L1, HL1, hst1⟩ := hst.pushStr s (by first | rfl | (rw [ByteArray.size_extract]; omega)) ho1 hg1 ha1 rfl
          clear ho1 hg1 ha1 hst
          clear c1 c2
          have c1 := hst1.c1; have c2 := hst1.c2
          have hl1 : L1.length ≤ 1600000 := by rw [HL1.out]; simp [bys_len]; omega
          go_wp2_with fail
          obtain ⟨m, hm⟩ : ∃ m : Nat, ex - (s.size : Int) = (m : Int) := ⟨(ex - s.size).toNat, by omega⟩
          rw [hm]
          have hm2 : m ≤ 65536 := by omega
          rw [hm] at HB2
          have HB3 : Hid (BD = bys s ++ List.replicate m 48) := HB2
          clear HB2 hm c2 c1
          go_loopg [1, 26] m (fun g s1 s26 wx => ∃ (i : Nat) (L : List Int), i ≤ m ∧ g = m - i ∧ s26 = .int .i64 i ∧ Hid (L = L1 ++ List.replicate i 48) ∧ St w v B w.heap.size neg s ex wx s1 L)
          case atStart => exact ⟨0, L1, Nat.zero_le _, rfl, rfl, (List.append_nil _).symm, hst1⟩
          case round =>
            clear hst1
            obtain ⟨i, L, him, rfl, rfl, HL, hst⟩ := hrel
            have hll : L.length ≤ 1700000 := by rw [HL.out]; simp; omega
            by_cases hlt : i < m
            · have hz : (i : Int) < (m : Int) := by omega
              go_wp2_with (at_builtin; refine wpList_append_own_at _ rfl (.tmp 28) (.tmp 29) 22 rfl B 5 i0 (.int .u8 0) 1 1 Try.underlying22 hi hz0 hz1 hz2 rfl (by decide) _ L.length (L.map (Value.int .u8)) rfl (World.ownsRow.alloc hst.own _) ⟨wr.heap.size, 0, none⟩ 1 1 [.int .u8 48] rfl rfl (cell_one_new _ _ _) (ints_oneCell .u8 [48]) (by unfold maxLen; omega) (by omega) (by have := hst.ge; simp; omega) ?_)
              intro v2 w2 ho2 hg2 _ ha2
              obtain ⟨L2, HL2, hst2⟩ := hst.push ho2 hg2 ha2 (by simp)
              clear ho2 hg2 ha2 hst
              go_wp2
              go_roundg (m - (i + 1))
              case measure => omega
              case rel => exact ⟨i + 1, L2, by omega, rfl, by go_num, (by rw [HL2.out, HL.out, List.replicate_succ', List.append_assoc] : L2 = _), hst2⟩
            · have hz : ¬ ((i : Int) < (m : Int)) := by omega
              have him2 : i = m := by omega
              go_wp2
              go_ret
              refine ⟨_, rfl, L, ?_, hst.own, hst.gr⟩
              show L = H ++ TX
              rw [HT3.out, HL.out, HL1.out, HB3.out, him2]
              simp
end Go.Proofs.Qxb6603906a
