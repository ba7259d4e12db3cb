/- yieldAll (12) of the seat b6615157a, handed the closure. -/
import Derived.Test.Qxb6615157aClo
namespace Go.Proofs.Qxb6615157a.Ya
open Go.RowKit

/-- text[f i : g i] is the slice P i. -/
def Cuts (T : Value) (f g : Nat → Int) (P : Nat → Value) (n : Nat) : Prop :=
  ∀ i, i < n → (∃ pa pn pc, P i = .slice pa pn pc) ∧ ∀ w, (Instr.slice 22 T (some (.int .i64 (f i))) (some (.int .i64 (g i))) none).run Try.prog w = .ok (P i) w

/-- The first k pieces. -/
def pcs (P : Nat → Value) (k : Nat) : List Value := (List.range k).map P

theorem pcs_len (P : Nat → Value) (k : Nat) : (pcs P k).length = k := by simp [pcs]
theorem pcs_succ (P : Nat → Value) (k : Nat) : pcs P (k + 1) = pcs P k ++ [P k] := by simp [pcs, List.range_succ]

theorem Inv.alloc {w0 w : World} {B : Nat} {stop : Int} {xs : List Value} (h : Inv w0 B stop w xs) (o : Obj) : Inv w0 B stop (w.alloc o) xs := by
  obtain ⟨hs, ⟨v, hg, hown⟩, hc, hb⟩ := h
  have hsz := lt_of_block hc
  exact ⟨(Below.heap_alloc w o B (by omega)).trans hs, ⟨v, (Below.heap_alloc w o (B + 1) (by omega)).trans hg, hown.alloc o⟩, (Below.heap_alloc w o (B + 2) (by omega)).trans hc, hb.alloc (by omega) o⟩

theorem clo_piece (w0 : World) (B : Nat) (stop : Int) (xs : List Value) (p : Value) (w : World) (hp : ∃ pa pn pc, p = .slice pa pn pc) (hx : xs.length ≤ 1048576) (hI : Inv w0 B stop w xs) :
    Calls Try.prog 13 #[p, .pointer (some ⟨B + 1, 0, none⟩), .pointer (some ⟨B + 2, 0, none⟩), .pointer (some ⟨B, 0, none⟩)] w fun e w' =>
      e = .returned (.bool (goesOn stop (xs.length + 1))) ∧ Inv w0 B stop w' (xs ++ [p]) := by
  obtain ⟨pa, pn, pc, rfl⟩ := hp
  exact clo_any w0 B stop xs pa pn pc w hx hI

set_option maxHeartbeats 1000000 in
theorem yield_some (w0 : World) (B : Nat) (stop : Int) (T : Value) (b off c n : Nat) (f g : Nat → Int) (P : Nat → Value) (w : World) (hn : n ≤ 1048576) (hbB : b < B)
    (h1 : ∀ i, i < n → w0.cell? ⟨b, off + i * 2, none⟩ = some (.int .i64 (f i)) ∧ w0.cell? ⟨b, off + i * 2 + 1, none⟩ = some (.int .i64 (g i)))
    (hcut : Cuts T f g P n) (hI : Inv w0 B stop w []) :
    Calls Try.prog 12 #[T, .slice (some ⟨b, off, none⟩) n c, .func (.func 13) #[] #[.pointer (some ⟨B + 1, 0, none⟩), .pointer (some ⟨B + 2, 0, none⟩), .pointer (some ⟨B, 0, none⟩)]] w fun e w' =>
      (∃ m, 1 ≤ m ∧ m ≤ n ∧ stop = (m : Int) ∧ e = .returned (.bool false) ∧ Inv w0 B stop w' (pcs P m)) ∨
      (stop ≤ 0 ∨ (n : Int) < stop) ∧ e = .returned (.bool true) ∧ Inv w0 B stop w' (pcs P n) := by
  go_enter Try.func12, Try.ntmps12
  go_wp2
  go_loopw [11] (fun i wr => ∃ k : Nat, k ≤ n ∧ i = .int .i64 k ∧ Inv w0 B stop wr (pcs P k) ∧ (stop ≤ 0 ∨ (k : Int) < stop ∨ k = 0)) (fun i _ => n - (intOf i).toNat)
  case atStart => exact ⟨0, Nat.zero_le _, rfl, hI, .inr (.inr rfl)⟩
  case round =>
    obtain ⟨k, hk, rfl, hIk, hst⟩ := hrel
    by_cases hlt : k < n
    · have g1 : wr.cell? ⟨b, off + k * 2, none⟩ = some (.int .i64 (f k)) := (hIk.2.2.2.cell (by exact hbB)).trans (h1 k hlt).1
      have g2 : wr.cell? ⟨b, off + k * 2 + 1, none⟩ = some (.int .i64 (g k)) := (hIk.2.2.2.cell (by exact hbB)).trans (h1 k hlt).2
      have gc := (hcut k hlt).2
      have hsh := (hcut k hlt).1
      have cC := clo_piece w0 B stop (pcs P k) (P k) (wr.alloc (.cells #[.int .i64 (f k), .int .i64 (g k)] 30)) hsh (by rw [pcs_len]; omega) (hIk.alloc _)
      rw [pcs_len, ← pcs_succ] at cC
      clear h1 hcut hI hsh
      by_cases hgo : stop ≤ 0 ∨ ((k + 1 : Nat) : Int) < stop
      · have hg1 : goesOn stop (k + 1) = true := by unfold goesOn; rcases hgo with h | h <;> simp <;> omega
        rw [hg1] at cC
        have HG : Hid (stop ≤ 0 ∨ ((k + 1 : Nat) : Int) < stop) := hgo
        clear hg1 hgo hst
        go_wp2_with fail
        refine cC.mono ?_
        rintro e w2 ⟨rfl, hI2⟩
        go_wp2
        go_roundw
        case rel => exact ⟨k + 1, by omega, by go_num, hI2, (by rcases HG.out with h | h; exact .inl h; exact .inr (.inl h))⟩
        case measure => simp [intOf]; omega
      · have hg1 : goesOn stop (k + 1) = false := by unfold goesOn; simp; omega
        rw [hg1] at cC
        have HG : Hid (stop = ((k + 1 : Nat) : Int)) := by show stop = ((k + 1 : Nat) : Int); omega
        clear hg1 hgo hst
        go_wp2_with fail
        refine cC.mono ?_
        rintro e w2 ⟨rfl, hI2⟩
        go_wp2
        go_ret
        exact .inl ⟨k + 1, by omega, by omega, HG.out, rfl, hI2⟩
    · have hkn : k = n := by omega
      subst hkn
      have HS : Hid (stop ≤ 0 ∨ (k : Int) < stop ∨ k = 0) := hst
      clear h1 hcut hI hst
      go_wp2
      go_ret
      refine .inr ⟨?_, rfl, hIk⟩
      rcases HS.out with h | h | h <;> omega

set_option maxHeartbeats 400000 in
theorem yield_none (w0 : World) (B : Nat) (stop : Int) (T F : Value) (a2 : Option Addr) (c : Nat) (w : World) (hI : Inv w0 B stop w []) :
    Calls Try.prog 12 #[T, .slice a2 0 c, F] w fun e w' => e = .returned (.bool true) ∧ Inv w0 B stop w' [] := by
  have HI : Hid (Inv w0 B stop w []) := hI
  clear hI
  go_enter Try.func12, Try.ntmps12
  go_wp2
  refine wp_loop_rounds 1 ?_
  rw [rounds_succ]
  go_wp2
  go_ret
  exact ⟨rfl, HI.out⟩

/-- yieldAll over n spans that lie below block B. -/
theorem yield_any (w0 : World) (B : Nat) (stop : Int) (T S : Value) (n : Nat) (f g : Nat → Int) (P : Nat → Value) (w : World) (hn : n ≤ 1048576)
    (hS : PairsAt w0 S n f g) (hB : B = w0.heap.size) (hcut : Cuts T f g P n) (hI : Inv w0 B stop w []) :
    Calls Try.prog 12 #[T, S, .func (.func 13) #[] #[.pointer (some ⟨B + 1, 0, none⟩), .pointer (some ⟨B + 2, 0, none⟩), .pointer (some ⟨B, 0, none⟩)]] w fun e w' =>
      (∃ m, 1 ≤ m ∧ m ≤ n ∧ stop = (m : Int) ∧ e = .returned (.bool false) ∧ Inv w0 B stop w' (pcs P m)) ∨
      (stop ≤ 0 ∨ (n : Int) < stop) ∧ e = .returned (.bool true) ∧ Inv w0 B stop w' (pcs P n) := by
  obtain ⟨ad, cap, rfl, hc, h0⟩ := hS
  by_cases hz : n = 0
  · subst hz
    refine (yield_none w0 B stop T _ ad cap w hI).mono fun e w' ⟨he, hI'⟩ => .inr ⟨by omega, he, hI'⟩
  · rcases h0 with h | ⟨b, off, rfl, hcell⟩
    · exact absurd h hz
    · have hb : b < w0.heap.size := World.block_lt_of_cell? w0 ⟨b, off + 0 * 2, none⟩ (hcell 0 (by omega)).1
      exact yield_some w0 B stop T b off cap n f g P w hn (by omega) hcell hcut hI
end Go.Proofs.Qxb6615157a.Ya
