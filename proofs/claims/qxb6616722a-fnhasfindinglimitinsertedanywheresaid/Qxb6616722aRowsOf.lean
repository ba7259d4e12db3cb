/- THE FOUR ROWS OF STRUCTS of the seat b6616722a, cell by cell. -/
import Derived.Test.Qxb6616722aRows
import Derived.Test.Qxb6616722aMem
namespace Go.Proofs.Qxb6616722a.Hf
open Go.RowKit

/-- A report.Limit, a ManagerLimit, a Breach, a Review of zero value. -/
def zL : Array Value := #[.string ⟨#[]⟩, .string ⟨#[]⟩, .string ⟨#[]⟩, .string ⟨#[]⟩, .string ⟨#[]⟩, .string ⟨#[]⟩, .int .i64 0]
def zM : Array Value := #[.string ⟨#[]⟩, .string ⟨#[]⟩, .string ⟨#[]⟩, .string ⟨#[]⟩, .string ⟨#[]⟩, .string ⟨#[]⟩, .string ⟨#[]⟩, .string ⟨#[]⟩, .int .i64 0, .slice none 0 0]
def zB : Array Value := #[.string ⟨#[]⟩, .string ⟨#[]⟩, .string ⟨#[]⟩, .int .i64 0, .string ⟨#[]⟩, .int .i64 0, .string ⟨#[]⟩]
def zV : Array Value := #[.string ⟨#[]⟩, .string ⟨#[]⟩, .string ⟨#[]⟩, .string ⟨#[]⟩, .string ⟨#[]⟩, .string ⟨#[]⟩]

theorem Try.info41 : (Try.prog.info? 41).map (fun i => (i.zero, i.size, i.bytes)) = some (some (.agg zL), 7, 104) := by kernel_rfl
theorem Try.info43 : (Try.prog.info? 43).map (fun i => (i.zero, i.size, i.bytes)) = some (some (.agg zM), 10, 160) := by kernel_rfl
theorem Try.info46 : (Try.prog.info? 46).map (fun i => (i.zero, i.size, i.bytes)) = some (some (.agg zB), 7, 96) := by kernel_rfl
theorem Try.info49 : (Try.prog.info? 49).map (fun i => (i.zero, i.size, i.bytes)) = some (some (.agg zV), 6, 96) := by kernel_rfl

theorem lim_cells {w : World} {g n k : Nat} {v : Nat → Value} (h : RowBlock w g 41 zL 6 n k v) {i : Nat} (hi : i < n) :
    w.cell? ⟨g, i * 7, none⟩ = some (.string ⟨#[]⟩) ∧ w.cell? ⟨g, i * 7 + 1, none⟩ = some (.string ⟨#[]⟩) ∧ w.cell? ⟨g, i * 7 + 2, none⟩ = some (.string ⟨#[]⟩) ∧
    w.cell? ⟨g, i * 7 + 3, none⟩ = some (.string ⟨#[]⟩) ∧ w.cell? ⟨g, i * 7 + 4, none⟩ = some (.string ⟨#[]⟩) ∧ w.cell? ⟨g, i * 7 + 5, none⟩ = some (.string ⟨#[]⟩) ∧
    w.cell? ⟨g, i * 7 + 6, none⟩ = some (if i < k then v i else .int .i64 0) := by
  refine ⟨?_, ?_, ?_, ?_, ?_, ?_, ?_⟩
  · simpa [zL] using h.cell (p := 0) hi (by decide)
  · simpa [zL] using h.cell (p := 1) hi (by decide)
  · simpa [zL] using h.cell (p := 2) hi (by decide)
  · simpa [zL] using h.cell (p := 3) hi (by decide)
  · simpa [zL] using h.cell (p := 4) hi (by decide)
  · simpa [zL] using h.cell (p := 5) hi (by decide)
  · simpa [zL] using h.cell (p := 6) hi (by decide)

theorem man_cells {w : World} {g n k : Nat} {v : Nat → Value} (h : RowBlock w g 43 zM 8 n k v) {i : Nat} (hi : i < n) :
    w.cell? ⟨g, i * 10, none⟩ = some (.string ⟨#[]⟩) ∧ w.cell? ⟨g, i * 10 + 1, none⟩ = some (.string ⟨#[]⟩) ∧ w.cell? ⟨g, i * 10 + 2, none⟩ = some (.string ⟨#[]⟩) ∧
    w.cell? ⟨g, i * 10 + 3, none⟩ = some (.string ⟨#[]⟩) ∧ w.cell? ⟨g, i * 10 + 4, none⟩ = some (.string ⟨#[]⟩) ∧ w.cell? ⟨g, i * 10 + 5, none⟩ = some (.string ⟨#[]⟩) ∧
    w.cell? ⟨g, i * 10 + 6, none⟩ = some (.string ⟨#[]⟩) ∧ w.cell? ⟨g, i * 10 + 7, none⟩ = some (.string ⟨#[]⟩) ∧
    w.cell? ⟨g, i * 10 + 8, none⟩ = some (if i < k then v i else .int .i64 0) ∧ w.cell? ⟨g, i * 10 + 9, none⟩ = some (.slice none 0 0) := by
  refine ⟨?_, ?_, ?_, ?_, ?_, ?_, ?_, ?_, ?_, ?_⟩
  · simpa [zM] using h.cell (p := 0) hi (by decide)
  · simpa [zM] using h.cell (p := 1) hi (by decide)
  · simpa [zM] using h.cell (p := 2) hi (by decide)
  · simpa [zM] using h.cell (p := 3) hi (by decide)
  · simpa [zM] using h.cell (p := 4) hi (by decide)
  · simpa [zM] using h.cell (p := 5) hi (by decide)
  · simpa [zM] using h.cell (p := 6) hi (by decide)
  · simpa [zM] using h.cell (p := 7) hi (by decide)
  · simpa [zM] using h.cell (p := 8) hi (by decide)
  · simpa [zM] using h.cell (p := 9) hi (by decide)

theorem bre_cells {w : World} {g n k : Nat} {v : Nat → Value} (h : RowBlock w g 46 zB 3 n k v) {i : Nat} (hi : i < n) :
    w.cell? ⟨g, i * 7, none⟩ = some (.string ⟨#[]⟩) ∧ w.cell? ⟨g, i * 7 + 1, none⟩ = some (.string ⟨#[]⟩) ∧ w.cell? ⟨g, i * 7 + 2, none⟩ = some (.string ⟨#[]⟩) ∧
    w.cell? ⟨g, i * 7 + 3, none⟩ = some (if i < k then v i else .int .i64 0) ∧ w.cell? ⟨g, i * 7 + 4, none⟩ = some (.string ⟨#[]⟩) ∧ w.cell? ⟨g, i * 7 + 5, none⟩ = some (.int .i64 0) ∧
    w.cell? ⟨g, i * 7 + 6, none⟩ = some (.string ⟨#[]⟩) := by
  refine ⟨?_, ?_, ?_, ?_, ?_, ?_, ?_⟩
  · simpa [zB] using h.cell (p := 0) hi (by decide)
  · simpa [zB] using h.cell (p := 1) hi (by decide)
  · simpa [zB] using h.cell (p := 2) hi (by decide)
  · simpa [zB] using h.cell (p := 3) hi (by decide)
  · simpa [zB] using h.cell (p := 4) hi (by decide)
  · simpa [zB] using h.cell (p := 5) hi (by decide)
  · simpa [zB] using h.cell (p := 6) hi (by decide)

theorem rev_cells {w : World} {g n k : Nat} {v : Nat → Value} (h : RowBlock w g 49 zV 5 n k v) {i : Nat} (hi : i < n) :
    w.cell? ⟨g, i * 6, none⟩ = some (.string ⟨#[]⟩) ∧ w.cell? ⟨g, i * 6 + 1, none⟩ = some (.string ⟨#[]⟩) ∧ w.cell? ⟨g, i * 6 + 2, none⟩ = some (.string ⟨#[]⟩) ∧
    w.cell? ⟨g, i * 6 + 3, none⟩ = some (.string ⟨#[]⟩) ∧ w.cell? ⟨g, i * 6 + 4, none⟩ = some (.string ⟨#[]⟩) ∧ w.cell? ⟨g, i * 6 + 5, none⟩ = some (if i < k then v i else .string ⟨#[]⟩) := by
  refine ⟨?_, ?_, ?_, ?_, ?_, ?_⟩
  · simpa [zV] using h.cell (p := 0) hi (by decide)
  · simpa [zV] using h.cell (p := 1) hi (by decide)
  · simpa [zV] using h.cell (p := 2) hi (by decide)
  · simpa [zV] using h.cell (p := 3) hi (by decide)
  · simpa [zV] using h.cell (p := 4) hi (by decide)
  · simpa [zV] using h.cell (p := 5) hi (by decide)

/-- What lies in a field: nil, or a new row of n structs, all filled. -/
def FieldIs (w : World) (x : Value) (isNil : Bool) (n T : Nat) (z : Array Value) (pos : Nat) (v : Nat → Value) : Prop :=
  (isNil = true ∧ n = 0 ∧ x = .slice none 0 0) ∨ (isNil = false ∧ ∃ g, x = .slice (some ⟨g, 0, none⟩) n n ∧ RowBlock w g T z pos n n v)

theorem RowBlock.later {w w' : World} {g T : Nat} {z : Array Value} {pos n k : Nat} {v : Nat → Value} (h : RowBlock w g T z pos n k v) (hb : Below w.heap.size w w') : RowBlock w' g T z pos n k v := by
  have hg : w.heap[g]? = some (.cells (rowCells z pos n k v).toArray T (0, 0)) := h
  exact (hb.block g (lt_of_block hg)).trans hg

theorem FieldIs.later {w w' : World} {x : Value} {isNil : Bool} {n T : Nat} {z : Array Value} {pos : Nat} {v : Nat → Value} (h : FieldIs w x isNil n T z pos v) (hb : Below w.heap.size w w') : FieldIs w' x isNil n T z pos v := by
  rcases h with h | ⟨h1, g, h2, h3⟩
  · exact .inl h
  · exact .inr ⟨h1, g, h2, h3.later hb⟩
end Go.Proofs.Qxb6616722a.Hf
