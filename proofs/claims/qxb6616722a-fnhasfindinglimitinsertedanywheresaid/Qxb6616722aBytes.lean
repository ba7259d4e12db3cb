/- zzBytes (4) and reportBytes (5) of the seat b6616722a: they only read, and hand back some bool, some int. -/
import Derived.Test.Qxb6616722aBuildParts
namespace Go.Proofs.Qxb6616722a.Hf
open Go.RowKit

/-- Some bool comes back; if it is true, p. -/
def GivesBool (p : Prop) (w : World) (e : Ending) (w' : World) : Prop := ∃ b, e = .returned (.bool b) ∧ w' = w ∧ (b = true → p)
/-- Some int comes back. -/
def GivesInt (w : World) (e : Ending) (w' : World) : Prop := ∃ x : Int, e = .returned (.int .i64 x) ∧ w' = w

set_option maxRecDepth 100000 in
set_option maxHeartbeats 2000000 in
theorem bytes_any (s bu : Bool) (aL aM aB aV : Option Addr) (nL cL nM cM nB cB nV cV : Nat) (at0 st : Int) (r : Nat → ByteArray) (w : World)
    (h1 : nL ≤ 9223372036854775807) (h2 : nM ≤ 9223372036854775807) (h3 : nB ≤ 9223372036854775807) (h4 : nV ≤ 9223372036854775807)
    (hV : RowAt w (.slice aV nV cV) nV (fun i => .string (r i))) :
    Calls Try.prog 4 #[.bool s, .bool bu, .slice aL nL cL, .slice aM nM cM, .slice aB nB cB, .slice aV nV cV, .int .i64 at0, .int .i64 st] w (GivesBool (nL ≤ 1048576 ∧ nM ≤ 1048576 ∧ nB ≤ 1048576 ∧ nV ≤ 1048576) w) := by
  have HV : Hid (RowAt w (.slice aV nV cV) nV (fun i => .string (r i))) := hV
  clear hV
  by_cases hs : (nL : Int) + (nM : Int) + (nB : Int) + (nV : Int) ≤ 1048576
  · go_enter Try.func4, Try.ntmps4
    go_wp2
    go_loop [17, 18] (fun z i => ∃ (k : Nat) (x : Int), k ≤ nV ∧ 0 ≤ x ∧ x ≤ 1048576 ∧ i = .int .i64 k ∧ z = .int .i64 x) (fun _ i => nV - (intOf i).toNat)
    case atStart => exact ⟨0, _, Nat.zero_le _, by omega, by omega, rfl, rfl⟩
    case round =>
      obtain ⟨k, x, hk, hx0, hx1, rfl, rfl⟩ := hrel
      by_cases hlt : k < nV
      · obtain ⟨lb, lo, had, hc⟩ := HV.out.cellAt hlt
        subst had
        obtain ⟨y, hy⟩ : ∃ y, r k = y := ⟨_, rfl⟩
        simp only [hy] at hc
        have hp : (k : Int) < (nV : Int) := by omega
        clear hy
        by_cases t1 : (1048576 : Int) < (y.size : Int)
        · go_wp2
          go_ret
          exact ⟨false, rfl, rfl, by simp⟩
        · by_cases t2 : (1048576 : Int) < x + (y.size : Int)
          · go_wp2
            go_ret
            exact ⟨false, rfl, rfl, by simp⟩
          · go_wp2
            go_round
            case rel => exact ⟨k + 1, x + (y.size : Int), by omega, by omega, by omega, by go_num, rfl⟩
            case measure => simp [intOf]; omega
      · go_wp2
        go_ret
        exact ⟨true, rfl, rfl, fun _ => by omega⟩
  · go_enter Try.func4, Try.ntmps4
    go_wp2
    all_goals
      go_ret
      exact ⟨false, rfl, rfl, by simp⟩

set_option maxRecDepth 100000 in
set_option maxHeartbeats 2000000 in
theorem report_any (aL aM aB aV : Option Addr) (nL cL nM cM nB cB nV cV : Nat) (r : Nat → ByteArray) (w : World)
    (h1 : nL ≤ 1048576) (h2 : nM ≤ 1048576) (h3 : nB ≤ 1048576) (h4 : nV ≤ 1048576)
    (hV : RowAt w (.slice aV nV cV) nV (fun i => .string (r i))) :
    Calls Try.prog 5 #[.slice aL nL cL, .slice aM nM cM, .slice aB nB cB, .slice aV nV cV] w (GivesInt w) := by
  have HV : Hid (RowAt w (.slice aV nV cV) nV (fun i => .string (r i))) := hV
  clear hV
  have d1 : decide ((1048576 : Int) < (nL : Int)) = false := by simp; omega
  have d2 : decide ((1048576 : Int) < (nM : Int)) = false := by simp; omega
  have d3 : decide ((1048576 : Int) < (nB : Int)) = false := by simp; omega
  have d4 : decide ((1048576 : Int) < (nV : Int)) = false := by simp; omega
  go_enter Try.func5, Try.ntmps5
  go_wp2
  go_loop [9, 10] (fun z i => ∃ (k : Nat) (x : Int), k ≤ nV ∧ 0 ≤ x ∧ x ≤ 67108864 ∧ i = .int .i64 k ∧ z = .int .i64 x) (fun _ i => nV - (intOf i).toNat)
  case atStart => exact ⟨0, _, Nat.zero_le _, by omega, by omega, rfl, rfl⟩
  case round =>
    obtain ⟨k, x, hk, hx0, hx1, rfl, rfl⟩ := hrel
    by_cases hlt : k < nV
    · by_cases t0 : x ≤ 1048576
      · obtain ⟨lb, lo, had, hc⟩ := HV.out.cellAt hlt
        subst had
        obtain ⟨y, hy⟩ : ∃ y, r k = y := ⟨_, rfl⟩
        simp only [hy] at hc
        have hp : (k : Int) < (nV : Int) := by omega
        clear hy
        by_cases t1 : (1048576 : Int) < (y.size : Int)
        · go_wp2
          go_ret
          exact ⟨_, rfl, rfl⟩
        · go_wp2
          go_round
          case rel => exact ⟨k + 1, x + (y.size : Int), by omega, by omega, by omega, by go_num, rfl⟩
          case measure => simp [intOf]; omega
      · have hp : (k : Int) < (nV : Int) := by omega
        go_wp2
        go_ret
        exact ⟨_, rfl, rfl⟩
    · go_wp2
      go_ret
      exact ⟨_, rfl, rfl⟩
end Go.Proofs.Qxb6616722a.Hf
