/- THE WALKS of the seat b6618888a: firstIn (5), ZZfirstIn (4), the law (3). -/
import Derived.Test.Qxb6618888aRows
import Derived.Test.Qxb6618888aBridge
import Derived.WalkKit
import Derived.WalkSpells
import Derived.WalkLawsBesides
namespace Go.Proofs.Qxb6618888a.Fi
open Go.RowKit Go.Proofs.Qxb6618888a.Pl

theorem ret_int {k : IntKind} {a b : Int} (h : a = b) : Ending.returned (.int k a) = .returned (.int k b) := by rw [h]

set_option maxHeartbeats 400000 in
theorem firstIn_any (a b : Nat) (w : World) (HA : Hid (a < 18446744073709551616)) (HB : Hid (b < 18446744073709551616)) :
    Calls Try.prog 5 #[.int .u64 a, .int .u64 b] w fun e w' => e = .returned (.int .u64 (F a b)) ∧ w' = w := by
  go_enter Try.func5, Try.ntmps5
  go_wp2
  go_ret
  exact ⟨ret_int (fst_form a b HA.out HB.out), rfl⟩

set_option maxHeartbeats 400000 in
theorem zzFirstIn_any (a b : Nat) (w : World) (HA : Hid (a < 18446744073709551616)) (HB : Hid (b < 18446744073709551616)) :
    Calls Try.prog 4 #[.int .u64 a, .int .u64 b] w fun e w' => e = .returned (.int .u64 (F a b)) ∧ w' = w := by
  go_enter Try.func4, Try.ntmps4
  go_wp2_with (go_at_call 5; refine (firstIn_any a b _ HA HB).mono ?_; rintro e w' ⟨rfl, rfl⟩)
  go_ret
  exact ⟨rfl, rfl⟩

set_option maxHeartbeats 400000 in
theorem law_any (a b : Nat) (w : World) (HA : Hid (a < 18446744073709551616)) (HB : Hid (b < 18446744073709551616)) :
    Calls Try.prog 3 #[.int .u64 a, .int .u64 b] w fun e w' => e = .returned (.bool true) ∧ w' = w := by
  have h1 := F_comm_b a b
  have hx : bits BinOp.xor IntKind.u64 a b = ((a ^^^ b : Nat) : Int) := u64_xor_nat a b HA.out HB.out
  have hz := F_zero_b a b
  have hn := F_tops a b
  have HX : Hid (a ^^^ b < 18446744073709551616) := xor_lt HA.out HB.out
  have H0 : Hid (0 < 18446744073709551616) := by show (0 : Nat) < 18446744073709551616; omega
  go_enter Try.func3, Try.ntmps3
  go_wp2_with fail
  refine (zzFirstIn_any a b _ HA HB).mono ?_
  rintro e w1 ⟨rfl, rfl⟩
  go_wp2_with fail
  refine (zzFirstIn_any b a _ HB HA).mono ?_
  rintro e w1 ⟨rfl, rfl⟩
  go_wp2_with fail
  refine (zzFirstIn_any (a ^^^ b) 0 _ HX H0).mono ?_
  rintro e w1 ⟨rfl, rfl⟩
  go_wp2_with fail
  go_loop [6] (fun i => ∃ k : Nat, k ≤ 8 ∧ i = .int .u64 k ∧ ∀ i, i < k → beq a b i = false) (fun i => 8 - (intOf i).toNat)
  case atStart => exact ⟨0, by omega, rfl, fun i hi => by omega⟩
  case round =>
    obtain ⟨k, hk, rfl, hne⟩ := hrel
    have HN : Hid (∀ i, i < k → beq a b i = false) := hne
    clear hne
    by_cases hlt : k < 8
    · cases hq : beq a b k
      · have HQ : Hid (beq a b k = false) := hq
        have hq' : ((a : Int) / 2 ^ (8 * k) % 256 == (b : Int) / 2 ^ (8 * k) % 256) = false := hq
        clear hq
        go_wp2
        go_round
        case rel => exact ⟨k + 1, by omega, by go_num, fun i hi => if h : i < k then HN.out i h else by rw [show i = k from by omega]; exact HQ.out⟩
        case measure => simp [intOf]; omega
      · have hl := law_hit a b k hlt HA.out HB.out HN.out hq
        have hq' : ((a : Int) / 2 ^ (8 * k) % 256 == (b : Int) / 2 ^ (8 * k) % 256) = true := hq
        clear hq
        go_wp2
        go_ret
        exact ⟨rfl, rfl⟩
    · have hl := law_none a b HA.out HB.out (fun i hi => HN.out i (by omega))
      go_wp2
      go_ret
      exact ⟨rfl, rfl⟩
end Go.Proofs.Qxb6618888a.Fi
