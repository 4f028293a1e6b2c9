/-
  'Rows.FnValidIDAcceptsEveryFormattedUUIDSaid' PROVED. The frame after the shells of this seat, an array of 16 bytes among the parameters.
-/
import Derived.Test.Qxb6603973aRows
import Derived.Test.Qxb6603973aWc
import Derived.WalkKit
import Derived.ProofKit
import Derived.OpenShut
import Derived.ShutString
import Derived.ChangeOld
import Derived.Below
namespace Go.Proofs.Qxb6603973a.fnValidIDAcceptsEveryFormattedUUID
open Go.ChangeShapes Go.WideShapes Go.ChangeAt Go.RowKit
set_option linter.unusedVariables false

theorem own : ownKnob Try.prog.godebug = none := by kernel_rfl
theorem laidOut : laidOutB Try.prog = true := by kernel_rfl
theorem cells23 : Try.prog.cellsOf 23 = 16 := by kernel_rfl
theorem cells5 : Try.prog.cellsOf 5 = 1 := by kernel_rfl

theorem agg_of {w : World} {base : Nat} {v : Value} (h : Value.okWide Try.prog w .any base 23 v) : ∃ cs, v = .agg cs ∧ cs.size = 16 := by
  simp only [Value.okWide, Try.underlying23] at h
  obtain ⟨cs, h1, h2, _⟩ := h
  exact ⟨cs, h1, by rw [h2]; exact cells23⟩

def numOf : Option Value → Int
  | some (.int _ n) => n
  | _ => 0

theorem bytes_of {H : Type} {enc : TypeId × Value → H} {w : World} {cs : Array Value} {d : DataW H} {p : List MemPlace} {fuel : Nat} (hcs : cs.size = 16)
    (h : DataW.trod enc Try.prog w 0 (fun _ => true) true fuel 23 (Value.agg cs).cells.toList = some (d, p)) :
    ∃ xs : List Int, (∀ i, i < 16 → cs[i]? = some (.int .u8 (xs.getD i 0))) ∧ ∀ i, 0 ≤ xs.getD i 0 ∧ xs.getD i 0 ≤ 255 := by
  obtain ⟨ys, m, _, _, _, hl, hf⟩ := DataW.trod_array Try.underlying23 h
  have one : ∀ i, i < 16 → ∃ n : Int, cs[i]? = some (.int .u8 n) ∧ 0 ≤ n ∧ n ≤ 255 := by
    intro i hi
    have h1 := hf i hi
    rw [cells5, Nat.mul_one] at h1
    have h2 : ((Value.agg cs).cells.toList.drop i).take 1 = [cs[i]'(by omega)] := by
      show (cs.toList.drop i).take 1 = _
      rw [List.drop_eq_getElem_cons (by rw [Array.length_toList]; omega)]
      simp
    rw [h2, List.getElem?_eq_getElem (by omega)] at h1
    obtain ⟨n, hn, _, hw⟩ := DataW.trod_int Try.underlying5 h1
    simp only [List.cons.injEq, and_true] at hn
    refine ⟨n, ?_, ?_⟩
    · rw [Array.getElem?_eq_getElem (by omega), hn]
    · simp [Lit.wf, IntKind.min, IntKind.max, IntKind.signed, IntKind.bits] at hw
      omega
  refine ⟨(List.range 16).map (fun i => numOf cs[i]?), fun i hi => ?_, fun i => ?_⟩
  · obtain ⟨n, hn, _⟩ := one i hi
    simp [List.getD, hi, hn, numOf]
  · by_cases hi : i < 16
    · obtain ⟨n, hn, hb⟩ := one i hi
      simp [List.getD, hi, hn, numOf]; omega
    · simp [List.getD, hi]

set_option maxRecDepth 100000 in
theorem lifted (os : Os) (started : os.Started) (H : Type) (enc : TypeId × Value → H) :
    ReturnsInHanded {} Try.checked os 4 .any (Rows.fnValidIDAcceptsEveryFormattedUUIDSpec.pre6 enc Try.prog Try.f4 Rows.fnValidIDAcceptsEveryFormattedUUIDRow.domain false) (Rows.fnValidIDAcceptsEveryFormattedUUIDSpec.post enc Try.prog Try.f4 false true false false) := by
  refine returnsInHanded_of_change (C := Try.checked) own started (by kernel_rfl) Try.func4
    (ChangeSpec.witness6 (enc := enc) (C := Try.checked) false ⟨#[], #[.agg #[.int .u8 0, .int .u8 0, .int .u8 0, .int .u8 0, .int .u8 0, .int .u8 0, .int .u8 0, .int .u8 0, .int .u8 0, .int .u8 0, .int .u8 0, .int .u8 0, .int .u8 0, .int .u8 0, .int .u8 0, .int .u8 0], .bool false], []⟩ 8 (by kernel_rfl) (by kernel_rfl) (by kernel_rfl) (by kernel_rfl)) ?_
  intro W base args ds gs before hval0 hW hcnd _
  have hval : ∀ (j : Nat) t v, Try.f4.params[j]? = some t → args[j]? = some v → Value.okWide Try.prog W .any base t v := hval0
  have hW' := hW
  obtain ⟨p, q, hA0, hV, rfl, hfz, hnd⟩ := hW
  have hA : DataW.TrodAll enc Try.prog W 0 (fun _ => true) true Try.f4.params.toList args.toList ds p := hA0
  rw [Try.params4] at hA hval
  obtain ⟨v0, vs0, d0, ds0, p0, q0, hargs, rfl, rfl, h0, r0⟩ := trodAll_cons hA
  obtain ⟨v1, vs1, d1, ds1, p1, q1, rfl, rfl, rfl, h1, r1⟩ := trodAll_cons r0
  obtain ⟨rfl, rfl, rfl⟩ := trodAll_nil r1
  obtain rfl : args = #[v0, v1] := by cases args; simp_all
  obtain ⟨rfl, rfl⟩ := trodVars_none hV
  obtain ⟨a1, rfl, rfl, rfl⟩ := open_bool Try.underlying4 (hval 1 4 v1 rfl rfl) h1
  obtain ⟨cs, rfl, hcs⟩ := agg_of (hval 0 23 v0 rfl rfl)
  have k0 := h0
  have lt0 : ∀ x ∈ p0, x.block < W.heap.size := by obtain ⟨m, hm⟩ := k0; exact DataW.trod_lt m _ _ _ hm
  obtain ⟨fuel, hf⟩ := h0
  obtain ⟨xs, hx1, hx2⟩ := bytes_of hcs hf
  clear hA0 hval0
  refine (law4 cs xs hcs hx1 hx2 a1 W).mono fun e W' ⟨he, bel⟩ => ?_
  subst he
  exact ⟨_, rfl, _, _, _, [], _, [], hW', trodAll_mk1 (shut_bool Try.underlying4 _), (trodAll_cons_mk (Below.trod laidOut (by kernel_rfl) (of_decide_eq_true (by kernel_rfl)) k0 bel lt0) (trodAll_cons_mk (shut_bool Try.underlying4 _) trodAll_mk0)), rfl, bel.frame _, fun h => by cases h⟩

theorem over : Rows.fnValidIDAcceptsEveryFormattedUUIDRow.holds Try.pinned (OpenSpec.ofChange Rows.fnValidIDAcceptsEveryFormattedUUIDSpec) :=
  OpenClaim.holds_of_wide 4 Try.f4 rfl rfl rfl rfl rfl rfl rfl ⟨rfl, rfl, rfl, rfl, rfl⟩ rfl rfl rfl rfl rfl (by kernel_rfl) Try.func4 (by kernel_rfl)
    (of_decide_eq_true (by kernel_rfl)) (by unfold Func.isWrapper; first | (rw [if_pos (by decide +kernel)]; kernel_rfl) | (rw [if_neg (by decide +kernel)]; exact ⟨rfl, rfl⟩))
    (fun os started H enc _ => lifted os started H enc)

theorem proved : Rows.FnValidIDAcceptsEveryFormattedUUIDSaid := over
#print axioms proved
end Go.Proofs.Qxb6603973a.fnValidIDAcceptsEveryFormattedUUID
