/- Slices of ints and of strings that came in, opened for the walks of the seat b6616722a. No program in sight. -/
import Derived.Test.Qxb6616722aGrown
import Derived.ProofKit
import Derived.SliceStrings
namespace Go.Proofs.Qxb6616722a.Hf
open Go.RowKit Go.ChangeShapes
section
variable {H : Type} {enc : TypeId × Value → H} {P : Program} {w : World} {base : Nat} {held : Bool}

theorem open_introw {t e : TypeId} {fuel len cap : Nat} {a : Option Addr} {x : DataW H × List MemPlace} (ht : P.underlying t = some (.slice e)) (he : P.underlying e = some (.int .i64)) (ce : P.cellsOf e = 1)
    (h : DataW.trod enc P w base (fun _ => true) held fuel t [.slice a len cap] = some x) :
    ∃ z : Nat → Int, RowAt w (.slice a len cap) len (fun i => .int .i64 (z i)) ∧ len ≤ maxLen ∧ (a = none → len = 0 ∧ cap = 0) := by
  rcases open_ints ht he ce h with ⟨hcs, _⟩ | ⟨ad, l, c, zs, hcs, _, hl, hm, hz, _, hcell, hwz⟩
  · simp at hcs
    obtain ⟨rfl, rfl, rfl⟩ := hcs
    exact ⟨fun _ => 0, ⟨none, 0, rfl, Nat.le_refl _, .inl rfl⟩, Nat.zero_le _, fun _ => ⟨rfl, rfl⟩⟩
  · simp at hcs
    obtain ⟨rfl, rfl, rfl⟩ := hcs
    refine ⟨fun i => zs.getD i 0, ⟨some ad, cap, rfl, hl, ?_⟩, Nat.le_trans hl hm, fun h => by simp at h⟩
    by_cases h0 : len = 0
    · exact .inl h0
    · right
      have hz' : zs.length = cap := by simpa using hz
      obtain ⟨b, off, spot⟩ := ad
      have hs := World.cell?_spot (hcell 0 (by omega))
      have hs' : spot = none := by simpa [Addr.add] using hs
      subst hs'
      refine ⟨b, off, rfl, fun i hi => ?_⟩
      have := hcell i (by omega)
      rw [addr_add] at this
      exact this

theorem open_strrow {t e : TypeId} {fuel len cap : Nat} {a : Option Addr} {x : DataW H × List MemPlace} (ht : P.underlying t = some (.slice e)) (he : P.underlying e = some .string) (ce : P.cellsOf e = 1)
    (h : DataW.trod enc P w base (fun _ => true) held fuel t [.slice a len cap] = some x) :
    ∃ z : Nat → ByteArray, RowAt w (.slice a len cap) len (fun i => .string (z i)) ∧ len ≤ maxLen ∧ (a = none → len = 0 ∧ cap = 0) := by
  rcases open_strings ht he ce h with ⟨hcs, _⟩ | ⟨ad, l, c, zs, hcs, _, hl, hm, hz, _, hcell, hwz⟩
  · simp at hcs
    obtain ⟨rfl, rfl, rfl⟩ := hcs
    exact ⟨fun _ => ByteArray.empty, ⟨none, 0, rfl, Nat.le_refl _, .inl rfl⟩, Nat.zero_le _, fun _ => ⟨rfl, rfl⟩⟩
  · simp at hcs
    obtain ⟨rfl, rfl, rfl⟩ := hcs
    refine ⟨fun i => zs.getD i ByteArray.empty, ⟨some ad, cap, rfl, hl, ?_⟩, Nat.le_trans hl hm, fun h => by simp at h⟩
    by_cases h0 : len = 0
    · exact .inl h0
    · right
      have hz' : zs.length = cap := by simpa using hz
      obtain ⟨b, off, spot⟩ := ad
      have hs := World.cell?_spot (hcell 0 (by omega))
      have hs' : spot = none := by simpa [Addr.add] using hs
      subst hs'
      refine ⟨b, off, rfl, fun i hi => ?_⟩
      have := hcell i (by omega)
      rw [addr_add] at this
      exact this
end
end Go.Proofs.Qxb6616722a.Hf
