/- zzB1SameList (9) of the seat b6615157a, at two slices that hold the same pieces: true. -/
import Derived.Test.Qxb6615157aEq
namespace Go.Proofs.Qxb6615157a.Ya
open Go.RowKit

theorem eq_bytes (v1 v2 : Value) (n : Nat) (f : Nat → Int) (w : World) (hn : n ≤ 9223372036854775807) (h1 : RowAt w v1 n (fun i => .int .u8 (f i))) (h2 : RowAt w v2 n (fun i => .int .u8 (f i))) :
    Calls Try.prog 8 #[v1, v2] w fun e w' => e = .returned (.bool true) ∧ ∃ q, w' = w.drewN q := by
  obtain ⟨a1, c1, rfl, k1⟩ := h1
  obtain ⟨a2, c2, rfl, k2⟩ := h2
  by_cases h0 : n = 0
  · subst h0; exact eq_none a1 a2 c1 c2 w
  · rcases k1 with h | ⟨b1, o1, rfl, k1⟩
    · exact absurd h h0
    · rcases k2 with h | ⟨b2, o2, rfl, k2⟩
      · exact absurd h h0
      · exact eq_some b1 o1 c1 b2 o2 c2 n f w hn k1 k2

/-- v is some slice of bytes. -/
def SomeBytes (w : World) (v : Value) : Prop := ∃ (n : Nat) (f : Nat → Int), n ≤ 9223372036854775807 ∧ RowAt w v n (fun i => .int .u8 (f i))

theorem SomeBytes.shape {w : World} {v : Value} (h : SomeBytes w v) : ∃ ad n cap, v = .slice ad n cap := by
  obtain ⟨n, f, _, ad, cap, rfl, _⟩ := h
  exact ⟨ad, n, cap, rfl⟩

theorem eq_self (v : Value) (w : World) (h : SomeBytes w v) : Calls Try.prog 8 #[v, v] w fun e w' => e = .returned (.bool true) ∧ ∃ q, w' = w.drewN q := by
  obtain ⟨n, f, hn, h⟩ := h
  exact eq_bytes v v n f w hn h h

set_option maxHeartbeats 400000 in
theorem same_none (a1 a2 : Option Addr) (c1 c2 : Nat) (w : World) :
    Calls Try.prog 9 #[.slice a1 0 c1, .slice a2 0 c2] w fun e w' => e = .returned (.bool true) ∧ ∃ q, w' = w.drewN q := by
  go_enter Try.func9, Try.ntmps9
  go_wp2
  refine wp_loop_rounds 1 ?_
  rw [rounds_succ]
  go_wp2
  go_ret
  exact ⟨rfl, 0, rfl⟩

set_option maxHeartbeats 400000 in
theorem same_some (b1 o1 c1 b2 o2 c2 n : Nat) (P : Nat → Value) (w : World) (hn : n ≤ 9223372036854775807)
    (h1 : ∀ i, i < n → w.cell? ⟨b1, o1 + i, none⟩ = some (P i)) (h2 : ∀ i, i < n → w.cell? ⟨b2, o2 + i, none⟩ = some (P i)) (hP : ∀ i, i < n → SomeBytes w (P i)) :
    Calls Try.prog 9 #[.slice (some ⟨b1, o1, none⟩) n c1, .slice (some ⟨b2, o2, none⟩) n c2] w fun e w' => e = .returned (.bool true) ∧ ∃ q, w' = w.drewN q := by
  go_enter Try.func9, Try.ntmps9
  go_wp2
  go_loopw [5] (fun i wr => ∃ k q : Nat, k ≤ n ∧ i = .int .i64 k ∧ wr = w.drewN q) (fun i _ => n - (intOf i).toNat)
  case atStart => exact ⟨0, 0, Nat.zero_le _, rfl, rfl⟩
  case round =>
    obtain ⟨k, q, hk, rfl, hq⟩ := hrel
    by_cases hlt : k < n
    · have g1 := h1 k hlt
      have g2 := h2 k hlt
      have gP := hP k hlt
      obtain ⟨ad, m, cp, hv⟩ := gP.shape
      rw [hv] at g1 g2 gP
      have HP : Hid (SomeBytes wr (.slice ad m cp)) := by rw [hq]; exact gP
      replace g1 : wr.cell? ⟨b1, o1 + k, none⟩ = some (.slice ad m cp) := by rw [hq]; exact g1
      replace g2 : wr.cell? ⟨b2, o2 + k, none⟩ = some (.slice ad m cp) := by rw [hq]; exact g2
      have HQ : Hid (wr = w.drewN q) := hq
      have hp : (k : Int) < (n : Int) := by omega
      clear h1 h2 hP gP hv hq
      go_wp2
      go_quiet ((go_at_call 8; refine Calls.quiet_of (eq_self _ _ ?_); exact HP.out))
      go_wp2
      go_roundw
      case rel => exact ⟨k + 1, q + nq, by omega, by go_num, by rw [HQ.out, World.drewN_drewN]⟩
      case measure => simp [intOf]; omega
    · have HQ : Hid (wr = w.drewN q) := hq
      clear h1 h2 hP hq
      go_wp2
      go_ret
      exact ⟨rfl, q, HQ.out⟩

theorem same_rows (v1 v2 : Value) (n : Nat) (P : Nat → Value) (w : World) (hn : n ≤ 9223372036854775807) (h1 : RowAt w v1 n P) (h2 : RowAt w v2 n P) (hP : ∀ i, i < n → SomeBytes w (P i)) :
    Calls Try.prog 9 #[v1, v2] w fun e w' => e = .returned (.bool true) ∧ ∃ q, w' = w.drewN q := by
  obtain ⟨a1, c1, rfl, k1⟩ := h1
  obtain ⟨a2, c2, rfl, k2⟩ := h2
  by_cases h0 : n = 0
  · subst h0; exact same_none a1 a2 c1 c2 w
  · rcases k1 with h | ⟨b1, o1, rfl, k1⟩
    · exact absurd h h0
    · rcases k2 with h | ⟨b2, o2, rfl, k2⟩
      · exact absurd h h0
      · exact same_some b1 o1 c1 b2 o2 c2 n P w hn k1 k2 hP
end Go.Proofs.Qxb6615157a.Ya
