/- THE ROW of 'Rows.FnYieldAllStopKeepsAPrefixOfTheWholeSaid' (the walk: Qxb6615157aStop). -/
import Derived.Test.Qxb6615157aRows
import Derived.Test.Qxb6615157aStop
import Derived.Test.Qxb6615157aOpen
import Derived.WalkKit
import Derived.ProofKit
import Derived.OpenShut
import Derived.ShutString
import Derived.ChangeOld
import Derived.Below
namespace Go.Proofs.Qxb6615157a.fnYieldAllStopKeepsAPrefixOfTheWhole
open Go.ChangeShapes Go.WideShapes Go.ChangeAt Go.RowKit Go.Proofs.Qxb6615157a.Ya
open Go.ChangeMaps (open_string shut_string)
set_option linter.unusedVariables false

theorem own : ownKnob Try.prog.godebug = none := by kernel_rfl
theorem laidOut : laidOutB Try.prog = true := by kernel_rfl

theorem walk (a0 a1 : Option Addr) (len cap0 n cap1 : Nat) (stop : Int) (z f g : Nat → Int) (w : World) (hl : len ≤ maxLen) (hn : n ≤ maxLen)
    (hT : RowAt w (.slice a0 len cap0) len (fun i => .int .u8 (z i))) (hT0 : a0 = none → len = 0 ∧ cap0 = 0)
    (hS : PairsAt w (.slice a1 n cap1) n f g) (hS0 : a1 = none → n = 0 ∧ cap1 = 0) :
    Calls Try.prog 4 #[.slice a0 len cap0, .slice a1 n cap1, .int .i64 stop] w fun e w' => e = .returned (.bool true) ∧ Below w.heap.size w w' := by
  unfold maxLen at hl hn
  by_cases hbig : (1048576 : Int) < (len : Int) ∨ (1048576 - (len : Int)) / 16 < (n : Int)
  · exact stop_big a0 a1 len cap0 n cap1 stop w (by omega) (by omega) hbig
  · have h1 : (len : Int) ≤ 1048576 := by omega
    have h4 : (n : Int) ≤ (1048576 - (len : Int)) / 16 := by omega
    by_cases hf : ∀ i, i < n → Fits len f g i
    · exact stop_main a0 a1 len cap0 n cap1 stop z f g w h1 h4 hT hT0 hS hS0 hf
    · exact stop_unfit a0 a1 len cap0 n cap1 stop f g w h1 h4 hS hf

/-! ### THE ROW's STEP -/
set_option maxRecDepth 100000 in
theorem lifted (os : Os) (started : os.Started) (H : Type) (enc : TypeId × Value → H) :
    ReturnsInHanded {} Try.checked os 4 .any (Rows.fnYieldAllStopKeepsAPrefixOfTheWholeSpec.pre6 enc Try.prog Try.f4 Rows.fnYieldAllStopKeepsAPrefixOfTheWholeRow.domain false) (Rows.fnYieldAllStopKeepsAPrefixOfTheWholeSpec.post enc Try.prog Try.f4 false true false false) := by
  refine returnsInHanded_of_change (C := Try.checked) own started (by kernel_rfl) Try.func4
    (ChangeSpec.witness6 (enc := enc) (C := Try.checked) false ⟨#[], #[.slice none 0 0, .slice none 0 0, .int .i64 0], []⟩ 8 (by kernel_rfl) (by kernel_rfl) (by kernel_rfl) (by kernel_rfl)) ?_
  intro W base args ds gs before hval0 hW hcnd _
  have hval : ∀ (j : Nat) t v, Try.f4.params[j]? = some t → args[j]? = some v → Value.okWide Try.prog W .any base t v := hval0
  have hW' := hW
  obtain ⟨p, q, hA0, hV, rfl, hfz, hnd⟩ := hW
  have hA : DataW.TrodAll enc Try.prog W 0 (fun _ => true) true Try.f4.params.toList args.toList ds p := hA0
  rw [Try.params4] at hA hval
  obtain ⟨v0, vs0, d0, ds0, p0, q0, hargs, rfl, rfl, h0, r0⟩ := trodAll_cons hA
  obtain ⟨v1, vs1, d1, ds1, p1, q1, rfl, rfl, rfl, h1, r1⟩ := trodAll_cons r0
  obtain ⟨v2, vs2, d2, ds2, p2, q2, rfl, rfl, rfl, h2, r2⟩ := trodAll_cons r1
  obtain ⟨rfl, rfl, rfl⟩ := trodAll_nil r2
  obtain rfl : args = #[v0, v1, v2] := by cases args; simp_all
  obtain ⟨rfl, rfl⟩ := trodVars_none hV
  obtain ⟨a0, len0, cap0, rfl⟩ := okWide_slice Try.underlying22 (hval 0 22 v0 rfl rfl)
  obtain ⟨a1, len1, cap1, rfl⟩ := okWide_slice Try.underlying23 (hval 1 23 v1 rfl rfl)
  have k0 := h0
  have k1 := h1
  have lt0 : ∀ x ∈ p0, x.block < W.heap.size := by obtain ⟨m, hm⟩ := k0; exact DataW.trod_lt m _ _ _ hm
  have lt1 : ∀ x ∈ p1, x.block < W.heap.size := by obtain ⟨m, hm⟩ := k1; exact DataW.trod_lt m _ _ _ hm
  obtain ⟨z, hT, hl, hT0⟩ : ∃ z : Nat → Int, RowAt W (.slice a0 len0 cap0) len0 (fun i => .int .u8 (z i)) ∧ len0 ≤ maxLen ∧ (a0 = none → len0 = 0 ∧ cap0 = 0) := by
    obtain ⟨fuel, hf⟩ := h0
    exact open_bytes Try.underlying22 Try.underlying5 (by kernel_rfl) (by simpa [Value.cells] using hf)
  obtain ⟨f, g, hS, hn, hS0⟩ : ∃ f g : Nat → Int, PairsAt W (.slice a1 len1 cap1) len1 f g ∧ cap1 ≤ maxLen ∧ (a1 = none → len1 = 0 ∧ cap1 = 0) := by
    obtain ⟨fuel, hf⟩ := h1
    exact open_pairs Try.underlying23 Try.underlying30 Try.underlying3 (by kernel_rfl) (by kernel_rfl) (by simpa [Value.cells] using hf)
  obtain ⟨a2, rfl, rfl, rfl, w2⟩ := open_int Try.underlying3 (hval 2 3 v2 rfl rfl) h2
  clear hA0 hval0
  have hn1 : len1 ≤ maxLen := by obtain ⟨_, _, hv, hc, _⟩ := hS; simp only [Value.slice.injEq] at hv; omega
  refine (walk a0 a1 len0 cap0 len1 cap1 a2 z f g W hl hn1 hT hT0 hS hS0).mono fun e W' ⟨he, bel⟩ => ?_
  subst he
  exact ⟨_, rfl, _, _, _, [], _, [], hW', trodAll_mk1 (shut_bool Try.underlying4 _), (trodAll_cons_mk (Below.trod laidOut (by kernel_rfl) (of_decide_eq_true (by kernel_rfl)) k0 bel lt0) (trodAll_cons_mk (Below.trod laidOut (by kernel_rfl) (of_decide_eq_true (by kernel_rfl)) k1 bel lt1) (trodAll_cons_mk (shut_int Try.underlying3 w2) trodAll_mk0))), rfl, bel.frame _, fun h => by cases h⟩

theorem over : Rows.fnYieldAllStopKeepsAPrefixOfTheWholeRow.holds Try.pinned (OpenSpec.ofChange Rows.fnYieldAllStopKeepsAPrefixOfTheWholeSpec) :=
  OpenClaim.holds_of_wide 4 Try.f4 rfl rfl rfl rfl rfl rfl rfl ⟨rfl, rfl, rfl, rfl, rfl⟩ rfl rfl rfl rfl rfl (by kernel_rfl) Try.func4 (by kernel_rfl)
    (of_decide_eq_true (by kernel_rfl)) (by unfold Func.isWrapper; first | (rw [if_pos (by decide +kernel)]; kernel_rfl) | (rw [if_neg (by decide +kernel)]; exact ⟨rfl, rfl⟩))
    (fun os started H enc _ => lifted os started H enc)

/-- ████ THE STATEMENT ████ -/
theorem proved : Rows.FnYieldAllStopKeepsAPrefixOfTheWholeSaid :=
  over
#print axioms proved
end Go.Proofs.Qxb6615157a.fnYieldAllStopKeepsAPrefixOfTheWhole
