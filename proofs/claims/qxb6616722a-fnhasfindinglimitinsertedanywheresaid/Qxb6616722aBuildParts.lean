/- SMALL FACTS for buildReport of the seat b6616722a. -/
import Derived.Test.Qxb6616722aHas
namespace Go.Proofs.Qxb6616722a.Hf
open Go.RowKit

theorem rep_set {w : World} {R : Nat} {cs : Array Value} (h : w.heap[R]? = some (.cells cs 38 (0, 0))) (j : Nat) (x : Value) :
    (w.setCell ⟨R, j, none⟩ x).heap[R]? = some (.cells (cs.setIfInBounds j x) 38 (0, 0)) := by
  rw [setCell_eq_setRow w R j cs 38 (0, 0) x h]; exact setRow_heap w R _ _ 38 _ h

theorem Rep.setL {w : World} {R : Nat} {s b : Bool} {vL vM vB vV : Value} (h : Rep w R s b vL vM vB vV) (x : Value) : Rep (w.setCell ⟨R, 12, none⟩ x) R s b x vM vB vV := rep_set h 12 x
theorem Rep.setM {w : World} {R : Nat} {s b : Bool} {vL vM vB vV : Value} (h : Rep w R s b vL vM vB vV) (x : Value) : Rep (w.setCell ⟨R, 13, none⟩ x) R s b vL x vB vV := rep_set h 13 x
theorem Rep.setB {w : World} {R : Nat} {s b : Bool} {vL vM vB vV : Value} (h : Rep w R s b vL vM vB vV) (x : Value) : Rep (w.setCell ⟨R, 14, none⟩ x) R s b vL vM x vV := rep_set h 14 x
theorem Rep.setV {w : World} {R : Nat} {s b : Bool} {vL vM vB vV : Value} (h : Rep w R s b vL vM vB vV) (x : Value) : Rep (w.setCell ⟨R, 15, none⟩ x) R s b vL vM vB x := rep_set h 15 x

theorem Rep.free {w : World} {R : Nat} {s b : Bool} {vL vM vB vV : Value} (h : Rep w R s b vL vM vB vV) (j : Nat) : w.frozen? ⟨R, j, none⟩ = false := by
  have hg : w.heap[R]? = some (.cells (repCells s b vL vM vB vV) 38 (0, 0)) := h
  simp [World.frozen?, hg]

/-- Block R in a world that parts from w elsewhere. -/
theorem Rep.block {w w' : World} {R : Nat} {s b : Bool} {vL vM vB vV : Value} (h : Rep w R s b vL vM vB vV) (hb : w'.heap[R]? = w.heap[R]?) : Rep w' R s b vL vM vB vV := hb.trans h
theorem RowBlock.block {w w' : World} {g T : Nat} {z : Array Value} {pos n k : Nat} {v : Nat → Value} (h : RowBlock w g T z pos n k v) (hb : w'.heap[g]? = w.heap[g]?) : RowBlock w' g T z pos n k v := hb.trans h

theorem row_made {w : World} {base g0 g T n size : Nat} {z : Array Value} (pos : Nat) (v : Nat → Value) (hz : z.size = size) (hgg : g0 = g) (h : w.ownsRow base T size (.slice (some ⟨g0, 0, none⟩) n n) n (madeCells z (n * size)).toList) : RowBlock w g T z pos n 0 v := by
  subst hz
  subst hgg
  obtain ⟨_, h2⟩ := h
  rcases h2 with ⟨h2, _⟩ | ⟨g', cap, cur, hv, _, hh, _, _, hcs, hx⟩
  · simp at h2
  · simp only [Value.slice.injEq, Option.some.injEq, Addr.mk.injEq, true_and, and_true] at hv
    obtain ⟨rfl, rfl⟩ := hv
    unfold RowBlock
    rw [hh, ← rowCells_start z pos n v, ← hx, List.take_of_length_le (by simp; omega)]

/-- A field that has been filled stays as it is while another block is written. -/
theorem FieldIs.keep {w w' : World} {x : Value} {isNil : Bool} {n T : Nat} {z : Array Value} {pos : Nat} {v : Nat → Value} (h : FieldIs w x isNil n T z pos v) (hb : ∀ g, x = .slice (some ⟨g, 0, none⟩) n n → w'.heap[g]? = w.heap[g]?) : FieldIs w' x isNil n T z pos v := by
  rcases h with h | ⟨h1, g, h2, h3⟩
  · exact .inl h
  · exact .inr ⟨h1, g, h2, h3.block (hb g h2)⟩

theorem grown_block {w w' : World} {k : Nat} (hg : w.grownBy w' none) (hk : k < w.heap.size) : w'.heap[k]? = w.heap[k]? := hg.block k hk (by simp)

theorem FieldIs.kept {w w' : World} {R : Nat} {s b : Bool} {vL vM vB vV x : Value} {isNil : Bool} {n T : Nat} {z : Array Value} {pos : Nat} {v : Nat → Value} (h : FieldIs w x isNil n T z pos v) (hR : Rep w R s b vL vM vB vV) (hT : T ≠ 38)
    (hk : ∀ j, j < w.heap.size → j ≠ R → w'.heap[j]? = w.heap[j]?) : FieldIs w' x isNil n T z pos v := by
  rcases h with h | ⟨h1, g, h2, h3⟩
  · exact .inl h
  · have hg : w.heap[g]? = some (.cells (rowCells z pos n n v).toArray T (0, 0)) := h3
    have hr : w.heap[R]? = some (.cells (repCells s b vL vM vB vV) 38 (0, 0)) := hR
    refine .inr ⟨h1, g, h2, h3.block (hk g (lt_of_block hg) fun e => ?_)⟩
    subst e
    rw [hg] at hr
    simp only [Option.some.injEq, Obj.cells.injEq] at hr
    exact hT hr.2.1

theorem RowAt.cellAt {w : World} {a : Option Addr} {n c k : Nat} {F : Nat → Value} (h : RowAt w (.slice a n c) n F) (hk : k < n) : ∃ lb lo, a = some ⟨lb, lo, none⟩ ∧ w.cell? ⟨lb, lo + k, none⟩ = some (F k) := by
  obtain ⟨ad, cap, hv, _, h0⟩ := h
  simp only [Value.slice.injEq, true_and] at hv
  obtain ⟨rfl, rfl⟩ := hv
  rcases h0 with h0 | ⟨b, off, hb, hc⟩
  · omega
  · exact ⟨b, off, hb, hc k hk⟩
end Go.Proofs.Qxb6616722a.Hf
