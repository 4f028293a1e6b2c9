import Derived.Test.Qxb6603973aWb
namespace Go.Proofs.Qxb6603973a
open Go.RowKit

theorem zv_yes (t : ByteArray) (hs : t.size = 36) (hok : ∀ j (h : j < t.size), okAt j ((t[j]'h).toNat : Int)) (w : World) :
    Calls Try.prog 7 #[.string t] w fun e w' => e = .returned (.bool true) ∧ w = w' := by
  go_enter Try.func7, Try.ntmps7
  go_wp2_with (go_at_call 13; refine (valid_yes t hs hok _).mono ?_; rintro e w' ⟨rfl, rfl⟩)
  go_ret
  exact ⟨rfl, rfl⟩

theorem zv_no (t : ByteArray) (hs : t.size ≠ 36) (w : World) :
    Calls Try.prog 7 #[.string t] w fun e w' => e = .returned (.bool false) ∧ w = w' := by
  go_enter Try.func7, Try.ntmps7
  go_wp2_with (go_at_call 13; refine (valid_no t hs _).mono ?_; rintro e w' ⟨rfl, rfl⟩)
  go_ret
  exact ⟨rfl, rfl⟩

set_option maxHeartbeats 2000000 in
set_option maxRecDepth 1000000 in
theorem law4 (c : Array Value) (xs : List Int) (hcs : c.size = 16) (hc : ∀ i, i < 16 → c[i]? = some (.int .u8 (xs.getD i 0))) (hxb : ∀ i, 0 ≤ xs.getD i 0 ∧ xs.getD i 0 ≤ 255) (up : Bool) (w : World) :
    Calls Try.prog 4 #[.agg c, .bool up] w fun e w' => e = .returned (.bool true) ∧ Below w.heap.size w w' := by
  go_enter Try.func4, Try.ntmps4
  go_wp2_with fail
  refine (fmt_any _ xs (fun i hi => ?_) hxb up _).mono ?_
  · rw [← hc i hi]
    match i, hi with
    | 0, _ => simp [hcs]
    | 1, _ => simp [hcs]
    | 2, _ => simp [hcs]
    | 3, _ => simp [hcs]
    | 4, _ => simp [hcs]
    | 5, _ => simp [hcs]
    | 6, _ => simp [hcs]
    | 7, _ => simp [hcs]
    | 8, _ => simp [hcs]
    | 9, _ => simp [hcs]
    | 10, _ => simp [hcs]
    | 11, _ => simp [hcs]
    | 12, _ => simp [hcs]
    | 13, _ => simp [hcs]
    | 14, _ => simp [hcs]
    | 15, _ => simp [hcs]
    | n + 16, h => exact absurd h (by omega)
  rintro e w2 ⟨t, rfl, HT, hb⟩
  have hbw : Below w.heap.size w w2 := ((Below.refl _ _).alloc (Nat.le_refl _) _).trans (hb.mono (by simp))
  have hs1 : (35 : Int) ≤ (t.size : Int) := by have := HT.out.1; omega
  have hs2 : (t.size : Int) ≤ 36 := by have := HT.out.1; omega
  clear hb
  go_wp2_with fail
  refine (zv_yes t HT.out.1 HT.out.2 _).mono ?_
  rintro e w3 ⟨rfl, rfl⟩
  go_wp2_with fail
  refine (zv_no _ (by rw [ByteArray.size_extract]; omega) _).mono ?_
  rintro e w3 ⟨rfl, rfl⟩
  go_wp2_with fail
  refine (zv_no _ (by rw [ByteArray.size_append]; have := HT.out.1; show t.size + 1 ≠ 36; omega) _).mono ?_
  rintro e w3 ⟨rfl, rfl⟩
  go_wp2
  go_ret
  exact ⟨rfl, hbw⟩
end Go.Proofs.Qxb6603973a
