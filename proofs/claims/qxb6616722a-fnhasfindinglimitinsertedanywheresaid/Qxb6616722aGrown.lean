/- 'grown' of the seat b6616722a: limits[:at], status, limits[at:] in one new row. No program in sight. -/
import Derived.Test.Qxb6616722aBuildParts
namespace Go.Proofs.Qxb6616722a.Hf
open Go.RowKit Go.Proofs.Qxb6616722a.Pl

/-- l at n, as cells, from place i on. -/
def seg (l : Nat → Int) (i n : Nat) : List Value := (List.range n).map fun j => .int .i64 (l (i + j))

theorem seg_len (l : Nat → Int) (i n : Nat) : (seg l i n).length = n * 1 := by simp [seg]
theorem seg_one (l : Nat → Int) (i n : Nat) : ∀ u ∈ seg l i n, u.oneCell' = true := by
  intro v hv; simp only [seg, List.mem_map] at hv; obtain ⟨j, _, rfl⟩ := hv; rfl
theorem seg_get {l : Nat → Int} {i n j : Nat} {u : Value} (h : (seg l i n)[j]? = some u) : j < n ∧ u = .int .i64 (l (i + j)) := by
  have hj : j < n := by
    have := (List.getElem?_eq_some_iff.1 h).1
    simpa [seg] using this
  simp [seg, hj] at h
  exact ⟨hj, h.symm⟩

theorem addr_add (b off i : Nat) : (⟨b, off, none⟩ : Addr).add i = ⟨b, off + i, none⟩ := by
  unfold Addr.add; split <;> simp_all

/-- The cells of limits[:at]. -/
theorem low_cells {w w0 : World} {a : Option Addr} {n c k : Nat} {l : Nat → Int} (h : RowAt w (.slice a n c) n (fun i => .int .i64 (l i))) (hk : k ≤ n) (hw : ∀ p v, w.cell? p = some v → w0.cell? p = some v) :
    ∀ ad, a = some ad → ∀ j u, (seg l 0 k)[j]? = some u → w0.cell? (ad.add j) = some u := by
  intro ad had j u hj
  obtain ⟨hjk, rfl⟩ := seg_get hj
  obtain ⟨lb, lo, ha, hc⟩ := h.cellAt (k := j) (by omega)
  rw [had] at ha
  simp only [Option.some.injEq] at ha
  subst ha
  rw [addr_add, Nat.zero_add]
  exact hw _ _ hc

/-- The cells of limits[at:]. -/
theorem high_cells {w w0 : World} {a : Option Addr} {n c k : Nat} {l : Nat → Int} (h : RowAt w (.slice a n c) n (fun i => .int .i64 (l i))) (hw : ∀ p v, w.cell? p = some v → w0.cell? p = some v) {ao : Option Addr} (hao : k < n → ao = a.map (·.add k)) :
    ∀ ad, ao = some ad → ∀ j u, (seg l k (n - k))[j]? = some u → w0.cell? (ad.add j) = some u := by
  intro ad had j u hj
  obtain ⟨hjk, rfl⟩ := seg_get hj
  rw [hao (by omega)] at had
  obtain ⟨lb, lo, ha, hc⟩ := h.cellAt (k := k + j) (by omega)
  subst ha
  simp only [Option.map_some, Option.some.injEq] at had
  subst had
  rw [addr_add, addr_add, Nat.add_assoc]
  exact hw _ _ hc

theorem ins_cell (l : Nat → Int) (k n : Nat) (x : Int) (hk : k ≤ n) (i : Nat) (hi : i < n + 1) : (seg l 0 k ++ [.int .i64 x] ++ seg l k (n - k))[i]? = some (.int .i64 (ins l k x i)) := by
  unfold ins
  by_cases h1 : i < k
  · rw [if_pos h1, List.append_assoc, List.getElem?_append_left (by simpa [seg] using h1)]
    simp [seg, h1]
  · rw [if_neg h1]
    by_cases h2 : i = k
    · subst h2
      rw [if_pos rfl, List.append_assoc, List.getElem?_append_right (by simp [seg])]
      simp [seg]
    · rw [if_neg h2, List.getElem?_append_right (by simp [seg]; omega)]
      have h3 : i - (seg l 0 k ++ [Value.int .i64 x]).length = i - (k + 1) := by simp [seg]
      rw [h3]
      have h4 : i - (k + 1) < n - k := by omega
      simp only [seg, List.getElem?_map, List.getElem?_range h4, Option.map_some]
      rw [show k + (i - (k + 1)) = i - 1 from by omega]

theorem grown_row {w : World} {base g cap n k N : Nat} {l : Nat → Int} {x : Int} (hk : k ≤ n) (hN : N = n + 1) (h : w.ownsRow base 3 1 (.slice (some ⟨g, 0, none⟩) N cap) N (seg l 0 k ++ [.int .i64 x] ++ seg l k (n - k))) :
    RowAt w (.slice (some ⟨g, 0, none⟩) (n + 1) cap) (n + 1) (fun i => .int .i64 (ins l k x i)) := by
  subst hN
  have h' := h
  obtain ⟨_, h2⟩ := h
  rcases h2 with ⟨h2, _⟩ | ⟨g', cap', cur, hv, _, hh, hc, _, _, _⟩
  · simp at h2
  · simp only [Value.slice.injEq, Option.some.injEq, Addr.mk.injEq, true_and, and_true] at hv
    obtain ⟨rfl, rfl⟩ := hv
    refine ⟨_, _, rfl, hc, .inr ⟨g, 0, rfl, fun i hi => ?_⟩⟩
    rw [Nat.zero_add, h'.cellAt i (by omega), ins_cell l k n x hk i hi]

/-- What w2 held is held still. -/
def Keeps (w2 w : World) : Prop := ∀ p v, w2.cell? p = some v → w.cell? p = some v
theorem Keeps.of_below {w2 w : World} (h : Below w2.heap.size w2 w) : Keeps w2 w := fun p _ hp => (h.cell (World.block_lt_of_cell? w2 p hp)).trans hp
theorem Keeps.none {w2 w w' : World} (h : Keeps w2 w) (hg : w.grownBy w' none) : Keeps w2 w' := fun p v hp => hg.cell (h p v hp) (by simp)
theorem Keeps.row {w2 w w' : World} {g : Nat} (h : Keeps w2 w) (hg : w.grownBy w' (some g)) (hB : w2.heap.size ≤ g) : Keeps w2 w' := fun p v hp =>
  hg.cell (h p v hp) (fun e => by have := World.block_lt_of_cell? w2 p hp; simp only [Option.some.injEq] at e; omega)
theorem Keeps.alloc {w2 w : World} (h : Keeps w2 w) (o : Obj) : Keeps w2 (w.alloc o) := fun p v hp =>
  (World.cell?_of_block (Below.heap_alloc w o p.block (World.block_lt_of_cell? w p (h p v hp)))).trans (h p v hp)
theorem cut_none {a : Option Addr} {c k : Nat} (h : (if c = k then a else a.map (·.add k)) = none) : a = none := by
  split at h
  · exact h
  · simpa using h
end Go.Proofs.Qxb6616722a.Hf
