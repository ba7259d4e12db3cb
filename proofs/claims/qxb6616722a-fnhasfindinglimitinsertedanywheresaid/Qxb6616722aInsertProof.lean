/- THE ROW of 'Rows.FnHasFindingLimitInsertedAnywhereSaid' (the walk: Qxb6616722aLaw). -/
import Derived.Test.Qxb6616722aRows
import Derived.Test.Qxb6616722aLaw
import Derived.Test.Qxb6616722aOpen
import Derived.WalkKit
import Derived.ProofKit
import Derived.OpenShut
import Derived.ShutString
import Derived.ChangeOld
import Derived.Below
namespace Go.Proofs.Qxb6616722a.fnHasFindingLimitInsertedAnywhere
open Go.ChangeShapes Go.WideShapes Go.ChangeAt Go.RowKit Go.Proofs.Qxb6616722a.Hf
open Go.ChangeMaps (open_string shut_string)
set_option linter.unusedVariables false

theorem own : ownKnob Try.prog.godebug = none := by kernel_rfl
theorem laidOut : laidOutB Try.prog = true := by kernel_rfl

/-! ### THE ROW's STEP -/
set_option maxRecDepth 100000 in
theorem lifted (os : Os) (started : os.Started) (H : Type) (enc : TypeId × Value → H) :
    ReturnsInHanded {} Try.checked os 3 .any (Rows.fnHasFindingLimitInsertedAnywhereSpec.pre6 enc Try.prog Try.f3 Rows.fnHasFindingLimitInsertedAnywhereRow.domain false) (Rows.fnHasFindingLimitInsertedAnywhereSpec.post enc Try.prog Try.f3 false true false false) := by
  refine returnsInHanded_of_change (C := Try.checked) own started (by kernel_rfl) Try.func3
    (ChangeSpec.witness6 (enc := enc) (C := Try.checked) false ⟨#[], #[.bool false, .bool false, .slice none 0 0, .slice none 0 0, .slice none 0 0, .slice none 0 0, .int .i64 0, .int .i64 0], []⟩ 8 (by kernel_rfl) (by kernel_rfl) (by kernel_rfl) (by kernel_rfl)) ?_
  intro W base args ds gs before hval0 hW hcnd _
  have hval : ∀ (j : Nat) t v, Try.f3.params[j]? = some t → args[j]? = some v → Value.okWide Try.prog W .any base t v := hval0
  have hW' := hW
  obtain ⟨p, q, hA0, hV, rfl, hfz, hnd⟩ := hW
  have hA : DataW.TrodAll enc Try.prog W 0 (fun _ => true) true Try.f3.params.toList args.toList ds p := hA0
  rw [Try.params3] at hA hval
  obtain ⟨v0, vs0, d0, ds0, p0, q0, hargs, rfl, rfl, h0, r0⟩ := trodAll_cons hA
  obtain ⟨v1, vs1, d1, ds1, p1, q1, rfl, rfl, rfl, h1, r1⟩ := trodAll_cons r0
  obtain ⟨v2, vs2, d2, ds2, p2, q2, rfl, rfl, rfl, h2, r2⟩ := trodAll_cons r1
  obtain ⟨v3, vs3, d3, ds3, p3, q3, rfl, rfl, rfl, h3, r3⟩ := trodAll_cons r2
  obtain ⟨v4, vs4, d4, ds4, p4, q4, rfl, rfl, rfl, h4, r4⟩ := trodAll_cons r3
  obtain ⟨v5, vs5, d5, ds5, p5, q5, rfl, rfl, rfl, h5, r5⟩ := trodAll_cons r4
  obtain ⟨v6, vs6, d6, ds6, p6, q6, rfl, rfl, rfl, h6, r6⟩ := trodAll_cons r5
  obtain ⟨v7, vs7, d7, ds7, p7, q7, rfl, rfl, rfl, h7, r7⟩ := trodAll_cons r6
  obtain ⟨rfl, rfl, rfl⟩ := trodAll_nil r7
  obtain rfl : args = #[v0, v1, v2, v3, v4, v5, v6, v7] := by cases args; simp_all
  obtain ⟨rfl, rfl⟩ := trodVars_none hV
  obtain ⟨x0, rfl, rfl, rfl⟩ := open_bool Try.underlying4 (hval 0 4 v0 rfl rfl) h0
  obtain ⟨x1, rfl, rfl, rfl⟩ := open_bool Try.underlying4 (hval 1 4 v1 rfl rfl) h1
  obtain ⟨a2, len2, cap2, rfl⟩ := okWide_slice Try.underlying22 (hval 2 22 v2 rfl rfl)
  obtain ⟨a3, len3, cap3, rfl⟩ := okWide_slice Try.underlying22 (hval 3 22 v3 rfl rfl)
  obtain ⟨a4, len4, cap4, rfl⟩ := okWide_slice Try.underlying22 (hval 4 22 v4 rfl rfl)
  obtain ⟨a5, len5, cap5, rfl⟩ := okWide_slice Try.underlying23 (hval 5 23 v5 rfl rfl)
  have k2 := h2
  have k3 := h3
  have k4 := h4
  have k5 := h5
  have lt2 : ∀ x ∈ p2, x.block < W.heap.size := by obtain ⟨m, hm⟩ := k2; exact DataW.trod_lt m _ _ _ hm
  have lt3 : ∀ x ∈ p3, x.block < W.heap.size := by obtain ⟨m, hm⟩ := k3; exact DataW.trod_lt m _ _ _ hm
  have lt4 : ∀ x ∈ p4, x.block < W.heap.size := by obtain ⟨m, hm⟩ := k4; exact DataW.trod_lt m _ _ _ hm
  have lt5 : ∀ x ∈ p5, x.block < W.heap.size := by obtain ⟨m, hm⟩ := k5; exact DataW.trod_lt m _ _ _ hm
  obtain ⟨l, hL, nL, zL0⟩ : ∃ z : Nat → Int, RowAt W (.slice a2 len2 cap2) len2 (fun i => .int .i64 (z i)) ∧ len2 ≤ maxLen ∧ (a2 = none → len2 = 0 ∧ cap2 = 0) := by
    obtain ⟨fuel, hf⟩ := h2
    exact open_introw Try.underlying22 Try.underlying3 (by kernel_rfl) (by simpa [Value.cells] using hf)
  obtain ⟨m, hM, nM, zM0⟩ : ∃ z : Nat → Int, RowAt W (.slice a3 len3 cap3) len3 (fun i => .int .i64 (z i)) ∧ len3 ≤ maxLen ∧ (a3 = none → len3 = 0 ∧ cap3 = 0) := by
    obtain ⟨fuel, hf⟩ := h3
    exact open_introw Try.underlying22 Try.underlying3 (by kernel_rfl) (by simpa [Value.cells] using hf)
  obtain ⟨b, hB, nB, zB0⟩ : ∃ z : Nat → Int, RowAt W (.slice a4 len4 cap4) len4 (fun i => .int .i64 (z i)) ∧ len4 ≤ maxLen ∧ (a4 = none → len4 = 0 ∧ cap4 = 0) := by
    obtain ⟨fuel, hf⟩ := h4
    exact open_introw Try.underlying22 Try.underlying3 (by kernel_rfl) (by simpa [Value.cells] using hf)
  obtain ⟨r, hR, nR, zR0⟩ : ∃ z : Nat → ByteArray, RowAt W (.slice a5 len5 cap5) len5 (fun i => .string (z i)) ∧ len5 ≤ maxLen ∧ (a5 = none → len5 = 0 ∧ cap5 = 0) := by
    obtain ⟨fuel, hf⟩ := h5
    exact open_strrow Try.underlying23 Try.underlying9 (by kernel_rfl) (by simpa [Value.cells] using hf)
  obtain ⟨x6, rfl, rfl, rfl, w6⟩ := open_int Try.underlying3 (hval 6 3 v6 rfl rfl) h6
  obtain ⟨x7, rfl, rfl, rfl, w7⟩ := open_int Try.underlying3 (hval 7 3 v7 rfl rfl) h7
  clear hA0 hval0
  unfold maxLen at nL nM nB nR
  refine (law_any x0 x1 a2 a3 a4 a5 len2 cap2 len3 cap3 len4 cap4 len5 cap5 x6 x7 l m b r W (by omega) (by omega) (by omega) (by omega) hL hM hB hR zL0 (fun h => (zM0 h).1) (fun h => (zB0 h).1) (fun h => (zR0 h).1)).mono fun e W' ⟨he, bel⟩ => ?_
  subst he
  exact ⟨_, rfl, _, _, _, [], _, [], hW', trodAll_mk1 (shut_bool Try.underlying4 _), (trodAll_cons_mk (shut_bool Try.underlying4 _) (trodAll_cons_mk (shut_bool Try.underlying4 _) (trodAll_cons_mk (Below.trod laidOut (by kernel_rfl) (of_decide_eq_true (by kernel_rfl)) k2 bel lt2) (trodAll_cons_mk (Below.trod laidOut (by kernel_rfl) (of_decide_eq_true (by kernel_rfl)) k3 bel lt3) (trodAll_cons_mk (Below.trod laidOut (by kernel_rfl) (of_decide_eq_true (by kernel_rfl)) k4 bel lt4) (trodAll_cons_mk (Below.trod laidOut (by kernel_rfl) (of_decide_eq_true (by kernel_rfl)) k5 bel lt5) (trodAll_cons_mk (shut_int Try.underlying3 w6) (trodAll_cons_mk (shut_int Try.underlying3 w7) trodAll_mk0)))))))), rfl, bel.frame _, fun h => by cases h⟩

theorem over : Rows.fnHasFindingLimitInsertedAnywhereRow.holds Try.pinned (OpenSpec.ofChange Rows.fnHasFindingLimitInsertedAnywhereSpec) :=
  OpenClaim.holds_of_wide 3 Try.f3 rfl rfl rfl rfl rfl rfl rfl ⟨rfl, rfl, rfl, rfl, rfl⟩ rfl rfl rfl rfl rfl (by kernel_rfl) Try.func3 (by kernel_rfl)
    (of_decide_eq_true (by kernel_rfl)) (by unfold Func.isWrapper; first | (rw [if_pos (by decide +kernel)]; kernel_rfl) | (rw [if_neg (by decide +kernel)]; exact ⟨rfl, rfl⟩))
    (fun os started H enc _ => lifted os started H enc)

/-- ████ THE STATEMENT ████ -/
theorem proved : Rows.FnHasFindingLimitInsertedAnywhereSaid :=
  over
#print axioms proved
end Go.Proofs.Qxb6616722a.fnHasFindingLimitInsertedAnywhere
