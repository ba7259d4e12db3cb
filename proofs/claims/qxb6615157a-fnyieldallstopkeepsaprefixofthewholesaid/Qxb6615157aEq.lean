/- zzB1Eq (8) of the seat b6615157a, at two slices that hold the same bytes: true. -/
import Derived.Test.Qxb6615157aRows
import Derived.Test.Qxb6615157aMem
import Derived.Deep.QuietTactic
import Derived.BigQuiet
namespace Go.Proofs.Qxb6615157a.Ya
open Go.RowKit

set_option maxHeartbeats 400000 in
theorem eq_none (a1 a2 : Option Addr) (c1 c2 : Nat) (w : World) :
    Calls Try.prog 8 #[.slice a1 0 c1, .slice a2 0 c2] w fun e w' => e = .returned (.bool true) ∧ ∃ q, w' = w.drewN q := by
  go_enter Try.func8, Try.ntmps8
  go_wp2
  refine wp_loop_rounds 1 ?_
  rw [rounds_succ]
  go_wp2
  go_ret
  exact ⟨rfl, 0, rfl⟩

set_option maxHeartbeats 400000 in
theorem eq_some (b1 o1 c1 b2 o2 c2 n : Nat) (f : Nat → Int) (w : World) (hn : n ≤ 9223372036854775807)
    (h1 : ∀ i, i < n → w.cell? ⟨b1, o1 + i, none⟩ = some (.int .u8 (f i))) (h2 : ∀ i, i < n → w.cell? ⟨b2, o2 + i, none⟩ = some (.int .u8 (f i))) :
    Calls Try.prog 8 #[.slice (some ⟨b1, o1, none⟩) n c1, .slice (some ⟨b2, o2, none⟩) n c2] w fun e w' => e = .returned (.bool true) ∧ ∃ q, w' = w.drewN q := by
  go_enter Try.func8, Try.ntmps8
  go_wp2
  go_loopw [5] (fun i wr => ∃ k q : Nat, k ≤ n ∧ i = .int .i64 k ∧ wr = w.drewN q) (fun i _ => n - (intOf i).toNat)
  case atStart => exact ⟨0, 0, Nat.zero_le _, rfl, rfl⟩
  case round =>
    obtain ⟨k, q, hk, rfl, rfl⟩ := hrel
    by_cases hlt : k < n
    · have g1 := h1 k hlt
      have g2 := h2 k hlt
      have hp : (k : Int) < (n : Int) := by omega
      go_wp2
      go_quiet (fail)
      go_wp2
      go_roundw
      case rel => exact ⟨k + 1, _, by omega, by go_num, rfl⟩
      case measure => simp [intOf]; omega
    · go_wp2
      go_ret
      exact ⟨rfl, q, rfl⟩
end Go.Proofs.Qxb6615157a.Ya
