/- FnYieldAllCutAnywhere (3), the ways that end early. -/
import Derived.Test.Qxb6615157aParts
import Derived.Deep.DeepCutAuto
namespace Go.Proofs.Qxb6615157a.Ya
open Go.RowKit

set_option maxRecDepth 100000 in
set_option maxHeartbeats 1000000 in
theorem cut_big (a0 a1 : Option Addr) (len cap0 n cap1 : Nat) (stop c : Int) (w : World) (hl : len ≤ 9223372036854775807) (hn : n ≤ 9223372036854775807)
    (hbig : (1048576 : Int) < (len : Int) ∨ (1048576 - (len : Int)) / 16 < (n : Int)) :
    Calls Try.prog 3 #[.slice a0 len cap0, .slice a1 n cap1, .int .i64 stop, .int .i64 c] w fun e w' => e = .returned (.bool true) ∧ Below w.heap.size w w' := by
  by_cases h1 : (1048576 : Int) < (len : Int)
  · clear hbig
    go_enter Try.func3, Try.ntmps3
    go_wp2
    go_ret
    exact ⟨rfl, Below.refl _ _⟩
  · by_cases h2 : (1048576 : Int) < (n : Int)
    · clear hbig
      go_enter Try.func3, Try.ntmps3
      go_wp2
      go_ret
      exact ⟨rfl, Below.refl _ _⟩
    · by_cases h3 : (1048576 : Int) < (len : Int) + (n : Int)
      · clear hbig
        go_enter Try.func3, Try.ntmps3
        go_wp2
        go_ret
        exact ⟨rfl, Below.refl _ _⟩
      · have h4 : (1048576 - (len : Int)) / 16 < (n : Int) := by omega
        clear hbig
        go_enter Try.func3, Try.ntmps3
        go_wp2
        go_ret
        exact ⟨rfl, Below.refl _ _⟩

set_option maxRecDepth 100000 in
set_option maxHeartbeats 1000000 in
theorem cut_out (a0 a1 : Option Addr) (len cap0 n cap1 : Nat) (stop c : Int) (w : World)
    (h1 : (len : Int) ≤ 1048576) (h4 : (n : Int) ≤ (1048576 - (len : Int)) / 16) (hc : c < 0 ∨ (n : Int) < c) :
    Calls Try.prog 3 #[.slice a0 len cap0, .slice a1 n cap1, .int .i64 stop, .int .i64 c] w fun e w' => e = .returned (.bool true) ∧ Below w.heap.size w w' := by
  by_cases h0 : c < 0
  · have d0 : decide (c < 0) = true := by simpa using h0
    clear hc
    go_enter Try.func3, Try.ntmps3
    go_wp2
    go_ret
    exact ⟨rfl, Below.refl _ _⟩
  · have d0 : decide (c < 0) = false := by simpa using h0
    have h2 : (n : Int) < c := by omega
    clear hc
    go_enter Try.func3, Try.ntmps3
    go_wp2
    go_ret
    exact ⟨rfl, Below.refl _ _⟩

set_option maxRecDepth 100000 in
set_option maxHeartbeats 1000000 in
theorem cut_unfit (a0 a1 : Option Addr) (len cap0 n cap1 : Nat) (stop c : Int) (f g : Nat → Int) (w : World)
    (h1 : (len : Int) ≤ 1048576) (h4 : (n : Int) ≤ (1048576 - (len : Int)) / 16) (hc0 : 0 ≤ c) (hcn : c ≤ (n : Int))
    (hS : PairsAt w (.slice a1 n cap1) n f g) (hno : ¬ ∀ i, i < n → Fits len f g i) :
    Calls Try.prog 3 #[.slice a0 len cap0, .slice a1 n cap1, .int .i64 stop, .int .i64 c] w fun e w' => e = .returned (.bool true) ∧ Below w.heap.size w w' := by
  have d0 : decide (c < 0) = false := by simpa using hc0
  have cF := fit_any a0 len cap0 n (.slice a1 n cap1) f g w (by omega) (by omega) hS
  have HN : Hid (¬ ∀ i, i < n → Fits len f g i) := hno
  clear hno hS
  go_enter Try.func3, Try.ntmps3
  go_wp2_with (go_at_call 5; go_in)
  refine cF.mono ?_
  rintro e w2 ⟨⟨hf, _⟩ | ⟨_, rfl⟩, q, rfl⟩
  · exact absurd hf HN.out
  · clear cF
    go_wp2
    go_ret
    exact ⟨rfl, belowN (Below.refl _ _) q⟩
end Go.Proofs.Qxb6615157a.Ya
