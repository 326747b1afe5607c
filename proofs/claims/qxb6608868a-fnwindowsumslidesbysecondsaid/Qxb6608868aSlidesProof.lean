/-
  Seat b6608868a: FnWindowSumSlidesBySecond: the row, PROVED.
-/
import Derived.Test.Qxb6608868aRows
import Derived.WalkKit
import Derived.ProofKit
import Derived.OpenShut
import Derived.ShutString
import Derived.ChangeOld
import Derived.Below
import Derived.Test.Qxb6608868aNearFrame
import Derived.Test.Qxb6608868aSlides
namespace Go.Proofs.Qxb6608868a.fnWindowSumSlidesBySecond
open Go.ChangeShapes Go.WideShapes Go.ChangeAt Go.RowKit
set_option linter.unusedVariables false

theorem own : ownKnob Try.prog.godebug = none := by kernel_rfl
theorem laidOut : laidOutB Try.prog = true := by kernel_rfl
theorem cells33 : Try.prog.cellsOf 33 = 10 := by kernel_rfl
theorem cells2 : Try.prog.cellsOf 2 = 1 := by kernel_rfl

def numAt (cs : Array Value) (j : Nat) : Int := match cs[j]? with
  | some (.int _ z) => z
  | _ => 0

/-- An [10]int64 by value that came in. -/
theorem arr_of {H : Type} {enc : TypeId × Value → H} {W : World} {base : Nat} {v : Value} {d : DataW H} {p : List MemPlace} (hv : Value.okWide Try.prog W .any base 33 v) (h : DataW.Trod enc Try.prog W 0 (fun _ => true) true 33 v d p) :
    ∃ V : Nat → Int, v = .agg (arr10 V) ∧ ∀ j, j < 10 → -9223372036854775808 ≤ V j ∧ V j ≤ 9223372036854775807 := by
  obtain ⟨cs, rfl, hsz, _⟩ : ∃ cs, v = .agg cs ∧ cs.size = Try.prog.cellsOf 33 ∧ Row.okWide Try.prog W .any base 33 cs := by
    simpa [Value.okWide, Try.underlying33] using hv
  rw [cells33] at hsz
  obtain ⟨fuel, hf⟩ := h
  obtain ⟨xs, m, _, _, _, hxs, hel⟩ := DataW.trod_array Try.underlying33 hf
  have hat : ∀ j, j < 10 → ∃ z : Int, cs[j]? = some (.int .i64 z) ∧ (Lit.int .i64 z).wf = true := fun j hj => by
    have h1 := hel j hj
    rw [cells2, Nat.mul_one, List.getElem?_eq_getElem (by omega)] at h1
    obtain ⟨z, e0, _, w0⟩ := DataW.trod_int Try.underlying2 h1
    refine ⟨z, ?_, w0⟩
    have h2 : ((cs.toList.drop j).take 1)[0]? = some (.int .i64 z) := by
      have e1 : (cs.toList.drop j).take 1 = [.int .i64 z] := by simpa [Value.cells] using e0
      rw [e1]
      rfl
    simpa using h2
  refine ⟨numAt cs, ?_, fun j hj => ?_⟩
  · congr 1
    apply Array.ext_getElem?
    intro j
    by_cases hj : j < 10
    · obtain ⟨z, hz, _⟩ := hat j hj
      rw [arr10_at _ hj, hz]
      unfold numAt
      rw [hz]
    · rw [Array.getElem?_eq_none (by omega), Array.getElem?_eq_none (by rw [arr10_size]; omega)]
  · obtain ⟨z, hz, hw⟩ := hat j hj
    have e : numAt cs j = z := by
      unfold numAt
      rw [hz]
    rw [e]
    exact i64_range hw

set_option maxRecDepth 100000 in
theorem lifted (os : Os) (started : os.Started) (H : Type) (enc : TypeId × Value → H) :
    ReturnsInHanded {} Try.checked os 6 .any (Rows.fnWindowSumSlidesBySecondSpec.pre6 enc Try.prog Try.f6 Rows.fnWindowSumSlidesBySecondRow.domain false) (Rows.fnWindowSumSlidesBySecondSpec.post enc Try.prog Try.f6 false true false false) := by
  refine returnsInHanded_of_change (C := Try.checked) own started (by kernel_rfl) Try.func6
    (ChangeSpec.witness6 (enc := enc) (C := Try.checked) false ⟨#[], #[.int .i64 0, .int .i64 0, .agg #[.int .i64 0, .int .i64 0, .int .i64 0, .int .i64 0, .int .i64 0, .int .i64 0, .int .i64 0, .int .i64 0, .int .i64 0, .int .i64 0], .agg #[.int .i64 0, .int .i64 0, .int .i64 0, .int .i64 0, .int .i64 0, .int .i64 0, .int .i64 0, .int .i64 0, .int .i64 0, .int .i64 0], .agg #[.int .i64 0, .int .i64 0, .int .i64 0, .int .i64 0, .int .i64 0, .int .i64 0, .int .i64 0, .int .i64 0, .int .i64 0, .int .i64 0]], []⟩ 8 (by kernel_rfl) (by kernel_rfl) (by kernel_rfl) (by kernel_rfl)) ?_
  intro W base args ds gs before hval0 hW hcnd _
  have hval : ∀ (j : Nat) t v, Try.f6.params[j]? = some t → args[j]? = some v → Value.okWide Try.prog W .any base t v := hval0
  have hW' := hW
  obtain ⟨p, q, hA0, hV, rfl, hfz, hnd⟩ := hW
  have hA : DataW.TrodAll enc Try.prog W 0 (fun _ => true) true Try.f6.params.toList args.toList ds p := hA0
  rw [Try.params6] at hA hval
  obtain ⟨v0, vs0, d0, ds0, p0, q0, hargs, rfl, rfl, h0, r0⟩ := trodAll_cons hA
  obtain ⟨v1, vs1, d1, ds1, p1, q1, rfl, rfl, rfl, h1, r1⟩ := trodAll_cons r0
  obtain ⟨v2, vs2, d2, ds2, p2, q2, rfl, rfl, rfl, h2, r2⟩ := trodAll_cons r1
  obtain ⟨v3, vs3, d3, ds3, p3, q3, rfl, rfl, rfl, h3, r3⟩ := trodAll_cons r2
  obtain ⟨v4, vs4, d4, ds4, p4, q4, rfl, rfl, rfl, h4, r4⟩ := trodAll_cons r3
  obtain ⟨rfl, rfl, rfl⟩ := trodAll_nil r4
  obtain rfl : args = #[v0, v1, v2, v3, v4] := by cases args; simp_all
  obtain ⟨rfl, rfl⟩ := trodVars_none hV
  obtain ⟨a0, rfl, rfl, rfl, w0⟩ := open_int Try.underlying2 (hval 0 2 v0 rfl rfl) h0
  obtain ⟨a1, rfl, rfl, rfl, w1⟩ := open_int Try.underlying2 (hval 1 2 v1 rfl rfl) h1
  have lt2 : ∀ x ∈ p2, x.block < W.heap.size := by obtain ⟨m, hm⟩ := h2; exact DataW.trod_lt m _ _ _ hm
  have lt3 : ∀ x ∈ p3, x.block < W.heap.size := by obtain ⟨m, hm⟩ := h3; exact DataW.trod_lt m _ _ _ hm
  have lt4 : ∀ x ∈ p4, x.block < W.heap.size := by obtain ⟨m, hm⟩ := h4; exact DataW.trod_lt m _ _ _ hm
  obtain ⟨S, rfl, hS⟩ := arr_of (hval 2 33 v2 rfl rfl) h2
  obtain ⟨R, rfl, hR⟩ := arr_of (hval 3 33 v3 rfl rfl) h3
  obtain ⟨E, rfl, hE⟩ := arr_of (hval 4 33 v4 rfl rfl) h4
  clear hA0 hval0
  refine (slidesLaw a0 a1 S R E W (i64_range w0).1 (i64_range w0).2 (i64_range w1).1 (i64_range w1).2 hS hR hE).mono fun e W' ⟨he, bel⟩ => ?_
  subst he
  exact ⟨_, rfl, _, _, _, [], _, [], hW', trodAll_mk1 (shut_bool Try.underlying4 _), (trodAll_cons_mk (shut_int Try.underlying2 w0) (trodAll_cons_mk (shut_int Try.underlying2 w1) (trodAll_cons_mk (Below.trod laidOut (by kernel_rfl) (of_decide_eq_true (by kernel_rfl)) h2 bel lt2) (trodAll_cons_mk (Below.trod laidOut (by kernel_rfl) (of_decide_eq_true (by kernel_rfl)) h3 bel lt3) (trodAll_cons_mk (Below.trod laidOut (by kernel_rfl) (of_decide_eq_true (by kernel_rfl)) h4 bel lt4) trodAll_mk0))))), rfl, bel.frame _, fun h => by cases h⟩

theorem over : Rows.fnWindowSumSlidesBySecondRow.holds Try.pinned (OpenSpec.ofChange Rows.fnWindowSumSlidesBySecondSpec) :=
  OpenClaim.holds_of_wide 6 Try.f6 rfl rfl rfl rfl rfl rfl rfl ⟨rfl, rfl, rfl, rfl, rfl⟩ rfl rfl rfl rfl rfl (by kernel_rfl) Try.func6 (by kernel_rfl)
    (of_decide_eq_true (by kernel_rfl)) (by unfold Func.isWrapper; first | (rw [if_pos (by decide +kernel)]; kernel_rfl) | (rw [if_neg (by decide +kernel)]; exact ⟨rfl, rfl⟩))
    (fun os started H enc _ => lifted os started H enc)

/-- ████ THE STATEMENT ████ -/
theorem proved : Rows.FnWindowSumSlidesBySecondSaid := over
end Go.Proofs.Qxb6608868a.fnWindowSumSlidesBySecond
