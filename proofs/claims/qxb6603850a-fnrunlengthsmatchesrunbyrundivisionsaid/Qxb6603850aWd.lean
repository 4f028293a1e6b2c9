import Derived.Test.Qxb6603850aWc
namespace Go.Proofs.Qxb6603850a
open Go.RowKit

/-- The zero value of 'dynamic'. -/
theorem zero58 : ∃ z : Array Value, (∀ W : World, (zeroValue 58).run Try.prog W = .ok (.agg z) W) ∧ z.size = 370 ∧ z[9]? = some (.slice none 0 0) :=
  ⟨((((Try.prog.info? 58).bind (fun i => i.zero)).getD undef).cells), fun _ => by kernel_rfl, by kernel_rfl, by kernel_rfl⟩

set_option maxHeartbeats 400000 in
set_option maxRecDepth 1000000 in
theorem zzrun_any (sa : Option Addr) (n cap : Nat) (xs : List Int) (hn : xs.length = n) (hm : n ≤ 65536) (hbd : ∀ j, 0 ≤ xs.getD j 0 ∧ xs.getD j 0 ≤ 255) (w : World) (hs : Seg .u8 w sa xs) :
    Calls Try.prog 9 #[.slice sa n cap] w fun e w' => ∃ v, e = .returned v ∧ Below w.heap.size w w' ∧ w.heap.size < w'.heap.size ∧ w'.ownsRow (w.heap.size + 1) 43 1 v (Pl.enc xs).length ((Pl.enc xs).map (Value.int .u16)) := by
  obtain ⟨z, hz, hzs, h9⟩ := zero58
  have hd : Dyn w w.heap.size (.slice sa n cap) (w.alloc (.cells (z.setIfInBounds 12 (.slice sa n cap)) 58)) (.slice none 0 0) [] :=
    ⟨by simpa [Array.getElem?_setIfInBounds] using h9, by simp, by simp [hzs], World.ownsRow_nil _ _ _ _, (Below.refl _ _).alloc (Nat.le_refl _) _, by simp⟩
  go_enter Try.func9, Try.ntmps9
  go_wp2_with (go_at_call 19; refine (run_any w w.heap.size (Nat.le_refl _) sa n cap xs hn hm hbd hs _ hd).mono ?_)
  rintro e w' ⟨rfl, v, hd2⟩
  have c9 := hd2.hdr
  go_wp2
  go_ret
  exact ⟨v, rfl, hd2.bel, hd2.lt, hd2.own⟩
end Go.Proofs.Qxb6603850a
