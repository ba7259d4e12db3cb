/- WHAT THE SEAT b6615157a SAYS OF MEMORY: slices whose elements take one cell, and rows of pairs. No program in sight. -/
import Derived.WalkKit
import Derived.WalkSpells
import Derived.WalkLawsBesides
namespace Go.Proofs.Qxb6615157a.Ya
open Go.RowKit

/-- v is a slice of n elements, one cell each; element i holds 'f i'. Of an empty one nothing is said of its address. -/
def RowAt (w : World) (v : Value) (n : Nat) (f : Nat → Value) : Prop :=
  ∃ ad cap, v = .slice ad n cap ∧ (n = 0 ∨ ∃ b off, ad = some ⟨b, off, none⟩ ∧ ∀ i, i < n → w.cell? ⟨b, off + i, none⟩ = some (f i))

/-- A slice of the bytes l. -/
def BytesAt (w : World) (v : Value) (l : List Int) : Prop := RowAt w v l.length (fun i => .int .u8 (l.getD i 0))

/-- A slice of n pairs, two cells each: pair i is (f i, g i). -/
def PairsAt (w : World) (v : Value) (n : Nat) (f g : Nat → Int) : Prop :=
  ∃ ad cap, v = .slice ad n cap ∧ n ≤ cap ∧ (n = 0 ∨ ∃ b off, ad = some ⟨b, off, none⟩ ∧ ∀ i, i < n → w.cell? ⟨b, off + i * 2, none⟩ = some (.int .i64 (f i)) ∧ w.cell? ⟨b, off + i * 2 + 1, none⟩ = some (.int .i64 (g i)))

theorem belowN {B : Nat} {a w : World} (h : Below B a w) (q : Nat) : Below B a (w.drewN q) := ⟨h.os, h.tape, h.output, h.size, h.block⟩
theorem bnext {B : Nat} {a b c : World} (h : Below B a b) (hB : B ≤ b.heap.size) (k : Below b.heap.size b c) : Below B a c := h.trans (k.mono hB)
end Go.Proofs.Qxb6615157a.Ya
