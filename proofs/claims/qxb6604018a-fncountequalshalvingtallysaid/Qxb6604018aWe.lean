import Derived.Test.Qxb6604018aWd
namespace Go.Proofs.Qxb6604018a
open Go.RowKit

set_option maxHeartbeats 2000000 in
set_option maxRecDepth 1000000 in
theorem law3 (a : Option Addr) (len cap : Nat) (ss : List ByteArray) (r : ByteArray) (w : World) (h0 : a = none → len = 0 ∧ cap = 0) (hl : ss.length = len) (hml : len ≤ 9223372036854775807) (hr : r.size ≤ 9223372036854775807) (hsz : ∀ s ∈ ss, s.size ≤ 9223372036854775807) (hs : Seg w a ss) :
    Calls Try.prog 3 #[.slice a len cap, .string r] w fun e w' => e = .returned (.bool true) ∧ Below w.heap.size w w' := by
  have HL : Hid (ss.length = len) := hl
  have HS : Hid (Seg w a ss) := hs
  have HZ : Hid (∀ s ∈ ss, s.size ≤ 9223372036854775807) := hsz
  have H0 : Hid (a = none → len = 0 ∧ cap = 0) := h0
  clear hl hs hsz h0
  go_enter Try.func3, Try.ntmps3
  go_wp2_with fail
  refine (bytes5_any a len cap ss r _ HL.out hml hr HZ.out HS.out).mono ?_
  rintro e w2 ⟨⟨b, rfl⟩, rfl⟩
  cases b with
  | false =>
    go_wp2
    go_ret
    exact ⟨rfl, Below.refl _ _⟩
  | true =>
    by_cases h16 : len ≤ 65536
    · by_cases hr2 : r.size ≤ 1048576
      · go_wp2_with fail
        refine (within_any a len cap ss r _ HL.out hml hr HZ.out HS.out).mono ?_
        rintro e w2 ⟨⟨b, rfl⟩, rfl⟩
        cases b with
        | false =>
          go_wp2
          go_ret
          exact ⟨rfl, Below.refl _ _⟩
        | true =>
          go_wp2_with fail
          refine (rs_any a len cap ss _ H0.out HL.out h16 HS.out).mono ?_
          rintro e w2 ⟨a1, c1, rfl, hb2, hs2⟩
          have HS2 : Hid (Seg w2 a1 ss) := hs2
          have HS3 : Hid (Seg w2 a ss) := HS.out.carry hb2 (Nat.le_refl _)
          clear hs2
          go_wp2_with fail
          refine (zcount_any a1 len c1 ss r _ HL.out h16 HS2.out).mono ?_
          rintro e w3 ⟨rfl, rfl⟩
          have HC : Hid (Pl.cr (lsOf ss) 0 len r.toList = (lsOf ss).count r.toList) := by
            show _ = _
            rw [← Pl.cr_all, lsOf_len, HL.out]
          have HT := tally_any a len cap ss r HL.out h16 HZ.out len 0 len w2 (by omega) (by omega) (Nat.le_refl _) HS3.out
          rw [HC.out] at HT
          have HT2 : Hid _ := HT
          clear HT HC
          generalize (lsOf ss).count r.toList = C at HT2 ⊢
          go_wp2_with fail
          refine Calls.mono HT2.out ?_
          rintro e w4 ⟨rfl, q, rfl⟩
          go_wp2
          go_ret
          exact ⟨rfl, below_drewN hb2 q⟩
      · have hz : (1048576 : Int) < (r.size : Int) := by omega
        go_wp2
        go_ret
        exact ⟨rfl, Below.refl _ _⟩
    · have hz : (65536 : Int) < (len : Int) := by omega
      go_wp2
      go_ret
      exact ⟨rfl, Below.refl _ _⟩
end Go.Proofs.Qxb6604018a
