/- anyBreach (8) of the seat b6616722a. -/
import Derived.Test.Qxb6616722aRowsOf
import Derived.Test.Qxb6616722aPlain
namespace Go.Proofs.Qxb6616722a.Hf
open Go.RowKit Go.Proofs.Qxb6616722a.Pl

set_option maxHeartbeats 400000 in
theorem any_none (a : Option Addr) (c : Nat) (w : World) :
    Calls Try.prog 8 #[.slice a 0 c] w fun e w' => e = .returned (.bool false) ∧ Below w.heap.size w w' := by
  go_enter Try.func8, Try.ntmps8
  go_wp2
  refine wp_loop_rounds 1 ?_
  rw [rounds_succ]
  go_wp2
  go_ret
  exact ⟨rfl, Below.refl _ _⟩

set_option maxHeartbeats 1000000 in
theorem any_some (g n c : Nat) (m : Nat → Int) (w : World) (hn : n ≤ 1048577) (hR : RowBlock w g 43 zM 8 n n (fun i => .int .i64 (m i))) :
    Calls Try.prog 8 #[.slice (some ⟨g, 0, none⟩) n c] w fun e w' => e = .returned (.bool (some1 (fun i => m i == 1) n)) ∧ Below w.heap.size w w' := by
  have hg : g < w.heap.size := lt_of_block hR
  have HR : Hid (RowBlock w g 43 zM 8 n n (fun i => .int .i64 (m i))) := hR
  clear hR
  go_enter Try.func8, Try.ntmps8
  go_wp2
  go_loopw [7] (fun i wr => ∃ k : Nat, k ≤ n ∧ i = .int .i64 k ∧ Below w.heap.size w wr ∧ ∀ j, j < k → (m j == 1) = false) (fun i _ => n - (intOf i).toNat)
  case atStart => exact ⟨0, Nat.zero_le _, rfl, Below.refl _ _, fun j hj => by omega⟩
  case round =>
    obtain ⟨k, hk, rfl, hb, hno⟩ := hrel
    have HN : Hid (∀ j, j < k → (m j == 1) = false) := hno
    clear hno
    by_cases hlt : k < n
    · have hRr : RowBlock wr g 43 zM 8 n n (fun i => .int .i64 (m i)) := HR.out.later hb
      obtain ⟨c0, c1, c2, c3, c4, c5, c6, c7, c8, c9⟩ := man_cells hRr hlt
      rw [if_pos hlt] at c8
      obtain ⟨x, hx⟩ : ∃ x, m k = x := ⟨_, rfl⟩
      rw [hx] at c8
      have HX : Hid (m k = x) := hx
      have hp : (k : Int) < (n : Int) := by omega
      clear hRr hx
      cases hq : (x == 1)
      · go_wp2
        go_roundw
        case rel => exact ⟨k + 1, by omega, by go_num, hb.alloc hb.size _, fun j hj => if h : j < k then HN.out j h else by rw [show j = k from by omega, HX.out]; exact hq⟩
        case measure => simp [intOf]; omega
      · go_wp2
        go_ret
        exact ⟨by rw [some1_yes hlt (by rw [HX.out]; exact hq)]; rfl, hb.alloc hb.size _⟩
    · go_wp2
      go_ret
      exact ⟨by rw [some1_no fun i hi => HN.out i (by omega)]; rfl, hb⟩

theorem any_field (x : Value) (isNil : Bool) (n : Nat) (m : Nat → Int) (w : World) (hn : n ≤ 1048577) (h : FieldIs w x isNil n 43 zM 8 (fun i => .int .i64 (m i))) :
    Calls Try.prog 8 #[x] w fun e w' => e = .returned (.bool (some1 (fun i => m i == 1) n)) ∧ Below w.heap.size w w' := by
  rcases h with ⟨_, rfl, rfl⟩ | ⟨_, g, rfl, hR⟩
  · exact any_none none 0 w
  · exact any_some g n n m w hn hR
end Go.Proofs.Qxb6616722a.Hf
