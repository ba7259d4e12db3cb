/- WHAT THE SEAT b6616722a SAYS OF MEMORY: rows of structs that are filled at one field; a world that parts from another in one block. No program in sight. -/
import Derived.WalkKit
import Derived.WalkSpells
import Derived.WalkLawsBesides
import Derived.Laws.CopyRow
namespace Go.Proofs.Qxb6616722a.Hf
open Go.RowKit

/-- v is a slice of n elements, one cell each; element i holds 'f i'. Of an empty one nothing is said of its address. -/
def RowAt (w : World) (v : Value) (n : Nat) (f : Nat → Value) : Prop :=
  ∃ ad cap, v = .slice ad n cap ∧ n ≤ cap ∧ (n = 0 ∨ ∃ b off, ad = some ⟨b, off, none⟩ ∧ ∀ i, i < n → w.cell? ⟨b, off + i, none⟩ = some (f i))

theorem belowN {B : Nat} {a w : World} (h : Below B a w) (q : Nat) : Below B a (w.drewN q) := ⟨h.os, h.tape, h.output, h.size, h.block⟩
theorem bnext {B : Nat} {a b c : World} (h : Below B a b) (hB : B ≤ b.heap.size) (k : Below b.heap.size b c) : Below B a c := h.trans (k.mono hB)

theorem RowAt.later {w w' : World} {v : Value} {n : Nat} {F : Nat → Value} (h : RowAt w v n F) (hb : Below w.heap.size w w') : RowAt w' v n F := by
  obtain ⟨ad, cap, rfl, hc, h0⟩ := h
  refine ⟨ad, cap, rfl, hc, ?_⟩
  rcases h0 with h0 | ⟨b, off, rfl, hc⟩
  · exact .inl h0
  · exact .inr ⟨b, off, rfl, fun i hi => (hb.cell (p := ⟨b, off + i, none⟩) (World.block_lt_of_cell? w _ (hc i hi))).trans (hc i hi)⟩

/-! ### a row of n structs of zero value z, whose field 'pos' has been set in the first k -/
def rowCells (z : Array Value) (pos n k : Nat) (v : Nat → Value) : List Value :=
  (List.range (n * z.size)).map fun j => if j % z.size = pos ∧ j / z.size < k then v (j / z.size) else z[j % z.size]!

theorem rowCells_len (z : Array Value) (pos n k : Nat) (v : Nat → Value) : (rowCells z pos n k v).length = n * z.size := by simp [rowCells]

theorem cell_lt {s n i p : Nat} (hi : i < n) (hp : p < s) : i * s + p < n * s := by
  have : (i + 1) * s ≤ n * s := Nat.mul_le_mul_right s hi
  rw [Nat.add_mul, Nat.one_mul] at this
  omega
theorem cell_mod {s i p : Nat} (hp : p < s) : (i * s + p) % s = p := by
  rw [Nat.add_comm, Nat.add_mul_mod_self_right, Nat.mod_eq_of_lt hp]
theorem cell_div {s i p : Nat} (hp : p < s) : (i * s + p) / s = i := by
  rw [Nat.add_comm, Nat.add_mul_div_right _ _ (by omega), Nat.div_eq_of_lt hp, Nat.zero_add]

theorem rowCells_get (z : Array Value) (pos n k : Nat) (v : Nat → Value) {i p : Nat} (hi : i < n) (hp : p < z.size) :
    (rowCells z pos n k v)[i * z.size + p]? = some (if p = pos ∧ i < k then v i else z[p]!) := by
  simp only [rowCells, List.getElem?_map, List.getElem?_range (cell_lt hi hp), Option.map_some, cell_mod hp, cell_div hp]

theorem rowCells_start (z : Array Value) (pos n : Nat) (v : Nat → Value) : (madeCells z (n * z.size)).toList = rowCells z pos n 0 v := by
  simp [madeCells, rowCells, Array.toList_range]

theorem rowCells_set (z : Array Value) (pos n k : Nat) (v : Nat → Value) (hp : pos < z.size) :
    (rowCells z pos n k v).set (k * z.size + pos) (v k) = rowCells z pos n (k + 1) v := by
  apply List.ext_getElem?
  intro j
  rw [List.getElem?_set]
  by_cases hj : j < n * z.size
  · simp only [rowCells, List.getElem?_map, List.getElem?_range hj, Option.map_some, List.length_map, List.length_range]
    by_cases e : k * z.size + pos = j
    · subst e
      simp only [cell_mod hp, cell_div hp, if_true]
      simp [hj]
    · rw [if_neg e]
      have hne : ¬ (j % z.size = pos ∧ j / z.size = k) := by
        rintro ⟨h1, h2⟩
        have := Nat.div_add_mod j z.size
        rw [h1, h2, Nat.mul_comm] at this
        exact e this
      by_cases h1 : j % z.size = pos
      · have h2 : j / z.size ≠ k := fun h => hne ⟨h1, h⟩
        have h3 : (j / z.size < k + 1) = (j / z.size < k) := propext ⟨fun h => by omega, fun h => by omega⟩
        simp only [h3]
      · simp only [h1, false_and, if_false]
  · have h1 : (rowCells z pos n k v)[j]? = none := List.getElem?_eq_none (by rw [rowCells_len]; omega)
    have h2 : (rowCells z pos n (k + 1) v)[j]? = none := List.getElem?_eq_none (by rw [rowCells_len]; omega)
    rw [h1, h2, rowCells_len]
    by_cases e : k * z.size + pos = j
    · subst e; simp [hj]
    · rw [if_neg e]

/-- block g holds such a row. -/
def RowBlock (w : World) (g T : Nat) (z : Array Value) (pos n k : Nat) (v : Nat → Value) : Prop := w.heap[g]? = some (.cells (rowCells z pos n k v).toArray T (0, 0))

theorem RowBlock.cell {w : World} {g T : Nat} {z : Array Value} {pos n k : Nat} {v : Nat → Value} (h : RowBlock w g T z pos n k v) {i p : Nat} (hi : i < n) (hp : p < z.size) :
    w.cell? ⟨g, i * z.size + p, none⟩ = some (if p = pos ∧ i < k then v i else z[p]!) := by
  have hg : w.heap[g]? = some (.cells (rowCells z pos n k v).toArray T (0, 0)) := h
  have := rowCells_get z pos n k v hi hp
  simp only [World.cell?, hg]
  simpa using this

theorem RowBlock.free {w : World} {g T : Nat} {z : Array Value} {pos n k : Nat} {v : Nat → Value} (h : RowBlock w g T z pos n k v) (j : Nat) : w.frozen? ⟨g, j, none⟩ = false := by
  have hg : w.heap[g]? = some (.cells (rowCells z pos n k v).toArray T (0, 0)) := h
  simp [World.frozen?, hg]

theorem RowBlock.set {w : World} {g T : Nat} {z : Array Value} {pos n k : Nat} {v : Nat → Value} (h : RowBlock w g T z pos n k v) (hp : pos < z.size) :
    RowBlock (w.setCell ⟨g, k * z.size + pos, none⟩ (v k)) g T z pos n (k + 1) v := by
  have hg : w.heap[g]? = some (.cells (rowCells z pos n k v).toArray T (0, 0)) := h
  unfold RowBlock
  rw [setCell_eq_setRow w g (k * z.size + pos) _ T (0, 0) (v k) hg, setRow_heap w g _ _ T _ hg, ← rowCells_set z pos n k v hp]
  simp

/-! ### a world that parts from another in block g alone -/
structure But (g : Nat) (w w' : World) : Prop where
  os : w'.os = w.os
  tape : w'.tape = w.tape
  output : w'.output = w.output
  size : w'.heap.size = w.heap.size
  block : ∀ k, k ≠ g → w'.heap[k]? = w.heap[k]?

theorem But.refl (g : Nat) (w : World) : But g w w := ⟨rfl, rfl, rfl, rfl, fun _ _ => rfl⟩
theorem But.setCell {g : Nat} {w w' : World} (h : But g w w') (o : Nat) (v : Value) : But g w (w'.setCell ⟨g, o, none⟩ v) :=
  ⟨h.os, h.tape, h.output, by rw [← h.size]; simp, fun k hk => by rw [Below.heap_setCell _ _ _ _ hk]; exact h.block k hk⟩
theorem But.drewN {g : Nat} {w w' : World} (h : But g w w') (q : Nat) : But g w (w'.drewN q) := ⟨h.os, h.tape, h.output, h.size, h.block⟩
theorem But.drew {g : Nat} {w w' : World} (h : But g w w') : But g w w'.drew := ⟨h.os, h.tape, h.output, h.size, h.block⟩
theorem But.cell {g : Nat} {w w' : World} (h : But g w w') {a : Addr} (ha : a.block ≠ g) : w'.cell? a = w.cell? a := World.cell?_of_block (w := w) (h.block a.block ha)
theorem But.frozen {g : Nat} {w w' : World} (h : But g w w') {a : Addr} (ha : a.block ≠ g) : w'.frozen? a = w.frozen? a := World.frozen?_of_block (w := w) (h.block a.block ha)
theorem But.below {g B : Nat} {w0 w w' : World} (h : But g w w') (hb : Below B w0 w) (hg : B ≤ g) : Below B w0 w' :=
  ⟨h.os.trans hb.os, h.tape.trans hb.tape, h.output.trans hb.output, by rw [h.size]; exact hb.size, fun k hk => (h.block k (by omega)).trans (hb.block k hk)⟩
end Go.Proofs.Qxb6616722a.Hf
