/- THE CLOSURE inside ZZyieldAll (13) of the seat b6615157a: it keeps what it is handed, counts, and says whether to go on. -/
import Derived.Test.Qxb6615157aRows
import Derived.Test.Qxb6615157aMem
import Derived.Deep.QuietTactic
import Derived.BigQuiet
namespace Go.Proofs.Qxb6615157a.Ya
open Go.RowKit

theorem Try.info22 : (Try.prog.info? 22).map (fun i => (i.zero, i.size, i.bytes)) = some (some (.slice none 0 0), 1, 24) := by kernel_rfl

/-- What the closure's captured variables hold: 'stop' in block B, 'got' in B + 1, 'calls' in B + 2; got owns the pieces xs, calls is their number; below B nothing has turned since w0. -/
def Inv (w0 : World) (B : Nat) (stop : Int) (w : World) (xs : List Value) : Prop :=
  w.heap[B]? = some (.cells #[.int .i64 stop] 3 (0, 0)) ∧
  (∃ v, w.heap[B + 1]? = some (.cells #[v] 26 (0, 0)) ∧ w.ownsRow (B + 3) 22 1 v xs.length xs) ∧
  w.heap[B + 2]? = some (.cells #[.int .i64 xs.length] 3 (0, 0)) ∧
  Below B w0 w

/-- The closure goes on behind its c-th call. -/
def goesOn (stop : Int) (c : Nat) : Bool := decide (stop ≤ 0) || decide ((c : Int) < stop)

theorem owns_shape {w : World} {base e : Nat} {v : Value} {n : Nat} {xs : List Value} (h : w.ownsRow base e 1 v (n + 1) xs) : ∃ g cap, v = .slice (some ⟨g, 0, none⟩) (n + 1) cap ∧ base ≤ g := by
  obtain ⟨_, h2⟩ := h
  rcases h2 with ⟨_, h2⟩ | ⟨g, cap, cur, hv, hg, _⟩
  · omega
  · exact ⟨g, cap, hv, hg⟩

theorem owns_any {w : World} {base e : Nat} {v : Value} {n : Nat} {xs : List Value} (h : w.ownsRow base e 1 v n xs) : ∃ ad cap, v = .slice ad n cap := by
  obtain ⟨_, h2⟩ := h
  rcases h2 with ⟨h1, h2⟩ | ⟨g, cap, cur, hv, hg, _⟩
  · subst h2; exact ⟨none, 0, h1⟩
  · exact ⟨_, cap, hv⟩

/-- What stands behind the append: the boxes as they were. -/
theorem box_kept {w w1 : World} {base k : Nat} {v : Value} {e : Nat} {n : Nat} {xs : List Value} {o o' : Obj} (hown : w.ownsRow base e 1 v n xs) (hg : (w.alloc o').grownBy w1 v.ownBlock) (hk : k < base) (hb : w.heap[k]? = some o) : w1.heap[k]? = some o := by
  have hlt := lt_of_block hb
  have h1 : (w.alloc o').heap[k]? = some o := (Below.heap_alloc w o' k hlt).trans hb
  rw [hg.block k (lt_of_block h1) ?_]
  · exact h1
  · intro he
    have := (hown.lt k he.symm).1
    omega

theorem inv_push {w0 w w1 : World} {B : Nat} {stop : Int} {v v' p : Value} {xs : List Value} {o : Obj}
    (hs : w.heap[B]? = some (.cells #[.int .i64 stop] 3 (0, 0))) (hg : w.heap[B + 1]? = some (.cells #[v] 26 (0, 0))) (hown : w.ownsRow (B + 3) 22 1 v xs.length xs)
    (hc : w.heap[B + 2]? = some (.cells #[.int .i64 xs.length] 3 (0, 0))) (hb : Below B w0 w)
    (hown' : w1.ownsRow (B + 3) 22 1 v' (xs.length + 1) (xs ++ [p])) (hgrow : (w.alloc o).grownBy w1 v.ownBlock) :
    Inv w0 B stop ((w1.setCell ⟨B + 1, 0, none⟩ v').setCell ⟨B + 2, 0, none⟩ (.int .i64 (xs.length + 1))) (xs ++ [p]) := by
  have k0 := box_kept hown hgrow (k := B) (by omega) hs
  have k1 := box_kept hown hgrow (k := B + 1) (by omega) hg
  have k2 := box_kept hown hgrow (k := B + 2) (by omega) hc
  have hsz := lt_of_block hc
  refine ⟨?_, ⟨v', ?_, ?_⟩, ?_, ?_⟩
  · rw [Below.heap_setCell _ _ _ _ (by simp), Below.heap_setCell _ _ _ _ (by simp)]; exact k0
  · rw [Below.heap_setCell _ _ _ _ (by simp)]; exact one_setCell k1
  · rw [List.length_append]
    refine ownsRow_setCell_below (ownsRow_setCell_below hown' ?_ _) ?_ _
    · show B + 1 < B + 3; omega
    · show B + 2 < B + 3; omega
  · have : ((xs ++ [p]).length : Int) = (xs.length : Int) + 1 := by simp
    rw [this]
    refine one_setCell (v := .int .i64 xs.length) ?_
    rw [Below.heap_setCell _ _ _ _ (by simp)]; exact k2
  · refine Below.setCell (Below.setCell (Below.grown (Below.alloc hb (by omega) o) hgrow ?_ ?_) ?_ _) ?_ _
    · simp; omega
    · intro k hk; have := (hown.lt k hk).1; omega
    · show B ≤ B + 1; omega
    · show B ≤ B + 2; omega

set_option maxHeartbeats 1000000 in
theorem clo_any (w0 : World) (B : Nat) (stop : Int) (xs : List Value) (pa : Option Addr) (pn pc : Nat) (w : World) (hx : xs.length ≤ 1048576) (hI : Inv w0 B stop w xs) :
    Calls Try.prog 13 #[.slice pa pn pc, .pointer (some ⟨B + 1, 0, none⟩), .pointer (some ⟨B + 2, 0, none⟩), .pointer (some ⟨B, 0, none⟩)] w fun e w' =>
      e = .returned (.bool (goesOn stop (xs.length + 1))) ∧ Inv w0 B stop w' (xs ++ [.slice pa pn pc]) := by
  obtain ⟨hs, ⟨v, hg, hown⟩, hc, hb⟩ := hI
  obtain ⟨i0, hi, hz0, hz1, hz2⟩ := info_parts Try.info22
  obtain ⟨va, vc, hv⟩ := owns_any hown
  subst hv
  have cs := cell_of_one hs
  have cg := cell_of_one hg
  have cc := cell_of_one hc
  have hsz := lt_of_block hc
  have HS : Hid (w.heap[B]? = some (.cells #[.int .i64 stop] 3 (0, 0))) := hs
  have HG : Hid (w.heap[B + 1]? = some (.cells #[.slice va xs.length vc] 26 (0, 0))) := hg
  have HC : Hid (w.heap[B + 2]? = some (.cells #[.int .i64 xs.length] 3 (0, 0))) := hc
  clear hs hg hc
  go_enter Try.func13, Try.ntmps13
  go_wp2_with (at_builtin; refine wpList_append_own _ rfl _ _ 26 rfl (B + 3) 22 i0 (.slice none 0 0) 1 24 Try.underlying26 hi hz0 hz1 hz2 rfl (by decide) _ _ _ rfl (hown.alloc _) ⟨w.heap.size, 0, none⟩ 1 1 [.slice pa pn pc] rfl rfl ?c1 ?c2 ?c3 ?c4 ?c5 ?_)
  case c1 =>
    intro j u hj
    match j, hj with
    | 0, hj => simp at hj; subst hj; simp [Addr.add]
  case c2 => intro u hu; simp at hu; subst hu; rfl
  case c3 => unfold maxLen; omega
  case c4 => omega
  case c5 => simp; omega
  · intro v' w1 hown' hgrow _
    obtain ⟨g, cap, hv', hgB⟩ := owns_shape hown'
    rw [hv'] at hown' ⊢
    have R := inv_push HS.out HG.out hown HC.out hb hown' hgrow
    have k0 := cell_of_one (box_kept hown hgrow (k := B) (by omega) HS.out)
    have k1 := cell_of_one (box_kept hown hgrow (k := B + 1) (by omega) HG.out)
    have k2 := cell_of_one (box_kept hown hgrow (k := B + 2) (by omega) HC.out)
    have f1 := free_of_one (box_kept hown hgrow (k := B + 1) (by omega) HG.out)
    have f2 := free_of_one (box_kept hown hgrow (k := B + 2) (by omega) HC.out)
    have HR : Hid (Inv w0 B stop ((w1.setCell ⟨B + 1, 0, none⟩ (.slice (some ⟨g, 0, none⟩) (xs.length + 1) cap)).setCell ⟨B + 2, 0, none⟩ (.int .i64 (xs.length + 1))) (xs ++ [.slice pa pn pc])) := R
    clear R hown' hgrow hown hb cs cg cc hv'
    by_cases h0 : stop ≤ 0
    · have d0 : decide (stop ≤ 0) = true := by simpa using h0
      go_wp2
      go_ret
      exact ⟨by simp [goesOn, h0], HR.out⟩
    · have d0 : decide (stop ≤ 0) = false := by simpa using h0
      go_wp2
      go_ret
      exact ⟨by simp [goesOn, d0], HR.out⟩
end Go.Proofs.Qxb6615157a.Ya
