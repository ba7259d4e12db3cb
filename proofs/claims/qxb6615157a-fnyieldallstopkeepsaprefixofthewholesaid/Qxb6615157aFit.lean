/- zzB1SpansFit (6) of the seat b6615157a. -/
import Derived.Test.Qxb6615157aRows
import Derived.Test.Qxb6615157aMem
import Derived.Deep.QuietTactic
import Derived.BigQuiet
namespace Go.Proofs.Qxb6615157a.Ya
open Go.RowKit

/-- Pair i is a piece of a text of 'len' bytes. -/
def Fits (len : Nat) (f g : Nat → Int) (i : Nat) : Prop := 0 ≤ f i ∧ f i ≤ g i ∧ g i ≤ (len : Int)

set_option maxHeartbeats 1000000 in
theorem fit_some (at0 : Option Addr) (len tc b off c n : Nat) (f g : Nat → Int) (w : World) (hn : n ≤ 9223372036854775807) (_hlen : len ≤ 9223372036854775807)
    (h1 : ∀ i, i < n → w.cell? ⟨b, off + i * 2, none⟩ = some (.int .i64 (f i))) (h2 : ∀ i, i < n → w.cell? ⟨b, off + i * 2 + 1, none⟩ = some (.int .i64 (g i))) :
    Calls Try.prog 6 #[.slice at0 len tc, .slice (some ⟨b, off, none⟩) n c] w fun e w' => ((∀ i, i < n → Fits len f g i) ∧ e = .returned (.bool true) ∨ ¬ (∀ i, i < n → Fits len f g i) ∧ e = .returned (.bool false)) ∧ ∃ q, w' = w.drewN q := by
  go_enter Try.func6, Try.ntmps6
  go_wp2
  go_loopw [5] (fun i wr => ∃ k q : Nat, k ≤ n ∧ i = .int .i64 k ∧ wr = w.drewN q ∧ ∀ i, i < k → Fits len f g i) (fun i _ => n - (intOf i).toNat)
  case atStart => exact ⟨0, 0, Nat.zero_le _, rfl, rfl, fun i hi => by omega⟩
  case round =>
    obtain ⟨k, q, hk, rfl, rfl, hall⟩ := hrel
    have HA : Hid (∀ i, i < k → Fits len f g i) := hall
    clear hall
    by_cases hlt : k < n
    · have g1 := h1 k hlt
      have g2 := h2 k hlt
      have hp : (k : Int) < (n : Int) := by omega
      clear h1 h2
      obtain ⟨x, hx⟩ : ∃ x, f k = x := ⟨_, rfl⟩
      obtain ⟨y, hy⟩ : ∃ y, g k = y := ⟨_, rfl⟩
      rw [hx] at g1
      rw [hy] at g2
      have HX : Hid (f k = x) := hx
      have HY : Hid (g k = y) := hy
      clear hx hy
      by_cases t1 : x < 0
      · go_wp2
        go_quiet (fail)
        go_wp2
        go_ret
        exact ⟨.inr ⟨fun h => by have := (h k hlt).1; rw [HX.out] at this; omega, rfl⟩, q + nq, World.drewN_drewN _ _ _⟩
      · have d1 : decide (x < 0) = false := by simpa using t1
        by_cases t2 : y < x
        · go_wp2
          go_quiet (fail)
          go_wp2
          go_ret
          exact ⟨.inr ⟨fun h => by have := (h k hlt).2.1; rw [HX.out, HY.out] at this; omega, rfl⟩, q + nq, World.drewN_drewN _ _ _⟩
        · have d2 : decide (y < x) = false := by simpa using t2
          by_cases t3 : (len : Int) < y
          · go_wp2
            go_quiet (fail)
            go_wp2
            go_ret
            exact ⟨.inr ⟨fun h => by have := (h k hlt).2.2; rw [HY.out] at this; omega, rfl⟩, q + nq, World.drewN_drewN _ _ _⟩
          · go_wp2
            go_quiet (fail)
            go_wp2
            go_roundw
            case rel => exact ⟨k + 1, _, by omega, by go_num, rfl, fun i hi => if h : i < k then HA.out i h else by rw [show i = k from by omega]; exact ⟨by rw [HX.out]; omega, by rw [HX.out, HY.out]; omega, by rw [HY.out]; omega⟩⟩
            case measure => simp [intOf]; omega
    · have hkn : k = n := by omega
      clear h1 h2
      go_wp2
      go_ret
      exact ⟨.inl ⟨fun i hi => HA.out i (by omega), rfl⟩, q, rfl⟩

set_option maxHeartbeats 400000 in
theorem fit_none (at0 a2 : Option Addr) (len tc c : Nat) (f g : Nat → Int) (w : World) :
    Calls Try.prog 6 #[.slice at0 len tc, .slice a2 0 c] w fun e w' => ((∀ i, i < 0 → Fits len f g i) ∧ e = .returned (.bool true) ∨ ¬ (∀ i, i < 0 → Fits len f g i) ∧ e = .returned (.bool false)) ∧ ∃ q, w' = w.drewN q := by
  go_enter Try.func6, Try.ntmps6
  go_wp2
  refine wp_loop_rounds 1 ?_
  rw [rounds_succ]
  go_wp2
  go_ret
  exact ⟨.inl ⟨fun i hi => by omega, rfl⟩, 0, rfl⟩

theorem fit_any (at0 : Option Addr) (len tc n : Nat) (v : Value) (f g : Nat → Int) (w : World) (hn : n ≤ 9223372036854775807) (hlen : len ≤ 9223372036854775807) (h : PairsAt w v n f g) :
    Calls Try.prog 6 #[.slice at0 len tc, v] w fun e w' => ((∀ i, i < n → Fits len f g i) ∧ e = .returned (.bool true) ∨ ¬ (∀ i, i < n → Fits len f g i) ∧ e = .returned (.bool false)) ∧ ∃ q, w' = w.drewN q := by
  obtain ⟨ad, cap, rfl, hc, h0 | ⟨b, off, rfl, hcell⟩⟩ := h
  · subst h0; exact fit_none at0 ad len tc cap f g w
  · exact fit_some at0 len tc b off cap n f g w hn hlen (fun i hi => (hcell i hi).1) (fun i hi => (hcell i hi).2)

theorem fit_yes (at0 : Option Addr) (len tc n : Nat) (v : Value) (f g : Nat → Int) (w : World) (hn : n ≤ 9223372036854775807) (hlen : len ≤ 9223372036854775807) (h : PairsAt w v n f g) (hf : ∀ i, i < n → Fits len f g i) :
    Calls Try.prog 6 #[.slice at0 len tc, v] w fun e w' => e = .returned (.bool true) ∧ ∃ q, w' = w.drewN q := by
  refine (fit_any at0 len tc n v f g w hn hlen h).mono ?_
  rintro e w' ⟨⟨_, he⟩ | ⟨hno, _⟩, hq⟩
  · exact ⟨he, hq⟩
  · exact absurd hf hno
end Go.Proofs.Qxb6615157a.Ya
