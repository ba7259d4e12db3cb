/- ZZyieldAll (7) of the seat b6615157a. -/
import Derived.Test.Qxb6615157aYield
namespace Go.Proofs.Qxb6615157a.Ya
open Go.RowKit

/-- v is a slice that holds the first m pieces. -/
def GotAt (w : World) (v : Value) (P : Nat → Value) (m : Nat) : Prop :=
  ∃ ad cap, v = .slice ad m cap ∧ m ≤ cap ∧ cap ≤ maxLen ∧ (m = 0 ∨ ∃ b, ad = some ⟨b, 0, none⟩ ∧ ∀ i, i < m → w.cell? ⟨b, i, none⟩ = some (P i))

theorem GotAt.shape {w : World} {v : Value} {P : Nat → Value} {m : Nat} (h : GotAt w v P m) : ∃ ad cap, v = .slice ad m cap := by
  obtain ⟨ad, cap, hv, _⟩ := h
  exact ⟨ad, cap, hv⟩

theorem GotAt.shape2 {w : World} {v : Value} {P : Nat → Value} {m : Nat} (h : GotAt w v P m) : ∃ ad cap, v = .slice ad m cap ∧ m ≤ cap := by
  obtain ⟨ad, cap, hv, hc, _⟩ := h
  exact ⟨ad, cap, hv, hc⟩

theorem got_of_owns {w : World} {base : Nat} {v : Value} {P : Nat → Value} {m : Nat} (h : w.ownsRow base 22 1 v m (pcs P m)) : GotAt w v P m := by
  have h' := h
  obtain ⟨_, h2⟩ := h
  rcases h2 with ⟨hv, hz⟩ | ⟨g, cap, cur, hv, _, hh, hc, hm, _, _⟩
  · subst hz; exact ⟨none, 0, hv, Nat.le_refl _, Nat.zero_le _, .inl rfl⟩
  · refine ⟨_, cap, hv, hc, hm, .inr ⟨g, rfl, fun i hi => ?_⟩⟩
    subst hv
    rw [h'.cellAt i (by omega)]
    simp [pcs, hi]

theorem inv_start (w : World) (stop : Int) :
    Inv w w.heap.size stop (((w.alloc (.cells #[.int .i64 stop] 3)).alloc (.cells #[.slice none 0 0] 26)).alloc (.cells #[.int .i64 0] 3)) [] := by
  have s1 : (w.alloc (.cells #[.int .i64 stop] 3)).heap.size = w.heap.size + 1 := by simp
  have s2 : ((w.alloc (.cells #[.int .i64 stop] 3)).alloc (.cells #[.slice none 0 0] 26)).heap.size = w.heap.size + 2 := by simp
  have e0 : (w.alloc (.cells #[.int .i64 stop] 3)).heap[w.heap.size]? = some (.cells #[.int .i64 stop] 3 (0, 0)) := heap_alloc_new w _
  have e1 := heap_alloc_new (w.alloc (.cells #[.int .i64 stop] 3)) (.cells #[.slice none 0 0] 26)
  have e2 := heap_alloc_new ((w.alloc (.cells #[.int .i64 stop] 3)).alloc (.cells #[.slice none 0 0] 26)) (.cells #[.int .i64 0] 3)
  rw [s1] at e1
  rw [s2] at e2
  refine ⟨?_, ⟨.slice none 0 0, ?_, World.ownsRow_nil _ _ _ _⟩, e2, ?_⟩
  · rw [Below.heap_alloc _ _ _ (by omega), Below.heap_alloc _ _ _ (by omega)]; exact e0
  · rw [Below.heap_alloc _ _ _ (by omega)]; exact e1
  · exact (((Below.refl _ w).alloc (Nat.le_refl _) _).alloc (by omega) _).alloc (by omega) _

set_option maxHeartbeats 1000000 in
theorem zz_any (T S : Value) (stop : Int) (n : Nat) (f g : Nat → Int) (P : Nat → Value) (w : World) (hn : n ≤ 1048576) (hS : PairsAt w S n f g) (hcut : Cuts T f g P n) :
    Calls Try.prog 7 #[T, S, .int .i64 stop] w fun e w' => ∃ v, Below w.heap.size w w' ∧
      ((∃ m, 1 ≤ m ∧ m ≤ n ∧ stop = (m : Int) ∧ e = .returned (.tuple #[.bool false, v]) ∧ GotAt w' v P m) ∨
       (stop ≤ 0 ∨ (n : Int) < stop) ∧ e = .returned (.tuple #[.bool true, v]) ∧ GotAt w' v P n) := by
  have cC := yield_any w w.heap.size stop T S n f g P _ hn hS rfl hcut (inv_start w stop)
  rw [show w.heap.size + 2 = w.heap.size + 1 + 1 from rfl] at cC
  clear hS hcut
  go_enter Try.func7, Try.ntmps7
  go_wp2_with fail
  refine cC.mono ?_
  rintro e w' (⟨m, hm1, hm2, rfl, rfl, hI⟩ | ⟨hst, rfl, hI⟩)
  · obtain ⟨_, ⟨v, hg, hown⟩, _, hb⟩ := hI
    have G := got_of_owns (w := w') (P := P) (m := m) (v := v) (base := w.heap.size + 3) (by rw [pcs_len] at hown; exact hown)
    have cg := cell_of_one hg
    obtain ⟨ad, cap, hv⟩ := G.shape
    rw [hv] at cg G
    have HG : Hid (GotAt w' (.slice ad m cap) P m) := G
    clear hg hown hv G cC
    go_wp2
    go_quiet (fail)
    go_wp2
    go_ret2
    exact ⟨_, belowN hb nq, .inl ⟨m, hm1, hm2, rfl, rfl, HG.out⟩⟩
  · obtain ⟨_, ⟨v, hg, hown⟩, _, hb⟩ := hI
    have G := got_of_owns (w := w') (P := P) (m := n) (v := v) (base := w.heap.size + 3) (by rw [pcs_len] at hown; exact hown)
    have cg := cell_of_one hg
    obtain ⟨ad, cap, hv⟩ := G.shape
    rw [hv] at cg G
    have HG : Hid (GotAt w' (.slice ad n cap) P n) := G
    have HS : Hid (stop ≤ 0 ∨ (n : Int) < stop) := hst
    clear hg hown hv G cC hst
    go_wp2
    go_quiet (fail)
    go_wp2
    go_ret2
    exact ⟨_, belowN hb nq, .inr ⟨HS.out, rfl, HG.out⟩⟩

/-- .. where it is stopped at the m-th piece. -/
theorem zz_stop (T S : Value) (m n : Nat) (f g : Nat → Int) (P : Nat → Value) (w : World) (hn : n ≤ 1048576) (hS : PairsAt w S n f g) (hcut : Cuts T f g P n) (h1 : 1 ≤ m) (h2 : m ≤ n) :
    Calls Try.prog 7 #[T, S, .int .i64 (m : Int)] w fun e w' => ∃ v, e = .returned (.tuple #[.bool false, v]) ∧ GotAt w' v P m ∧ Below w.heap.size w w' := by
  refine (zz_any T S m n f g P w hn hS hcut).mono ?_
  rintro e w' ⟨v, hb, ⟨m', _, _, hm, he, hG⟩ | ⟨h, _⟩⟩
  · have : m' = m := by omega
    subst this
    exact ⟨v, he, hG, hb⟩
  · omega

/-- .. where it is not. -/
theorem zz_go (T S : Value) (stop : Int) (n : Nat) (f g : Nat → Int) (P : Nat → Value) (w : World) (hn : n ≤ 1048576) (hS : PairsAt w S n f g) (hcut : Cuts T f g P n) (h : stop ≤ 0 ∨ (n : Int) < stop) :
    Calls Try.prog 7 #[T, S, .int .i64 stop] w fun e w' => ∃ v, e = .returned (.tuple #[.bool true, v]) ∧ GotAt w' v P n ∧ Below w.heap.size w w' := by
  refine (zz_any T S stop n f g P w hn hS hcut).mono ?_
  rintro e w' ⟨v, hb, ⟨m', h1, h2, hm, he, hG⟩ | ⟨_, he, hG⟩⟩
  · omega
  · exact ⟨v, he, hG, hb⟩
end Go.Proofs.Qxb6615157a.Ya
