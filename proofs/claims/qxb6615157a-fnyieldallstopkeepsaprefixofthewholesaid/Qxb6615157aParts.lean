/- SMALL FACTS for the two laws of the seat b6615157a: copies, cuts, pieces. -/
import Derived.Test.Qxb6615157aZZ
import Derived.Test.Qxb6615157aFit
import Derived.Test.Qxb6615157aSame
import Derived.Test.Qxb6615157aCopy
namespace Go.Proofs.Qxb6615157a.Ya
open Go.RowKit

theorem Try.info5 : (Try.prog.info? 5).map (fun i => (i.zero, i.size, i.bytes)) = some (some (.int .u8 0), 1, 1) := by kernel_rfl
theorem Try.info30 : (Try.prog.info? 30).map (fun i => (i.zero, i.size, i.bytes)) = some (some (.agg #[.int .i64 0, .int .i64 0]), 2, 16) := by kernel_rfl
theorem Try.size5 : (Try.prog.info? 5).map (·.size) = some 1 := by kernel_rfl
theorem Try.size30 : (Try.prog.info? 30).map (·.size) = some 2 := by kernel_rfl

/-- The text, copied: a slice of 'len' bytes and no more room. -/
def TextAt (w : World) (v : Value) (len : Nat) (z : Nat → Int) : Prop :=
  ∃ ad, v = .slice ad len len ∧ (len = 0 ∨ ∃ b, ad = some ⟨b, 0, none⟩ ∧ ∀ i, i < len → w.cell? ⟨b, i, none⟩ = some (.int .u8 (z i)))

/-- The spans, copied. -/
def SpansAt (w : World) (v : Value) (n : Nat) (f g : Nat → Int) : Prop :=
  ∃ ad, v = .slice ad n n ∧ (n = 0 ∨ ∃ b, ad = some ⟨b, 0, none⟩ ∧ ∀ i, i < n → w.cell? ⟨b, i * 2, none⟩ = some (.int .i64 (f i)) ∧ w.cell? ⟨b, i * 2 + 1, none⟩ = some (.int .i64 (g i)))

/-- The text's cells. -/
def bcells (z : Nat → Int) (len : Nat) : List Value := (List.range len).map fun i => .int .u8 (z i)
/-- The spans' cells. -/
def pcells (f g : Nat → Int) (n : Nat) : List Value := (List.range (n * 2)).map fun j => if j % 2 = 0 then .int .i64 (f (j / 2)) else .int .i64 (g (j / 2))

theorem bcells_len (z : Nat → Int) (len : Nat) : (bcells z len).length = len * 1 := by simp [bcells]
theorem pcells_len (f g : Nat → Int) (n : Nat) : (pcells f g n).length = n * 2 := by simp [pcells]
theorem bcells_one (z : Nat → Int) (len : Nat) : ∀ v ∈ bcells z len, v.oneCell' = true := by
  intro v hv; simp only [bcells, List.mem_map] at hv; obtain ⟨i, _, rfl⟩ := hv; rfl
theorem pcells_one (f g : Nat → Int) (n : Nat) : ∀ v ∈ pcells f g n, v.oneCell' = true := by
  intro v hv; simp only [pcells, List.mem_map] at hv; obtain ⟨i, _, rfl⟩ := hv; split <;> rfl

theorem old_cell {w w3 : World} {a : Addr} {v : Value} (hg : w.grownBy w3 none) (h : w.cell? a = some v) : w3.cell? a = some v := hg.cell h (by simp)

theorem text_src {w w3 : World} {ad : Addr} {len cap : Nat} {z : Nat → Int} (h : RowAt w (.slice (some ad) len cap) len (fun i => .int .u8 (z i))) (hg : ∀ a v, w.cell? a = some v → w3.cell? a = some v) :
    len = 0 ∨ ∃ a, some ad = some a ∧ ∀ j v, (bcells z len)[j]? = some v → w3.cell? (a.add j) = some v := by
  obtain ⟨a', c', hv, h0⟩ := h
  simp only [Value.slice.injEq, true_and] at hv
  obtain ⟨rfl, rfl⟩ := hv
  rcases h0 with h0 | ⟨b, off, hb, hc⟩
  · exact .inl h0
  · right
    refine ⟨ad, rfl, fun j v hj => ?_⟩
    simp only [Option.some.injEq] at hb
    subst hb
    have hlt : j < len := by
      have := (List.getElem?_eq_some_iff.1 hj).1
      simpa [bcells] using this
    simp [bcells, hlt] at hj
    subst hj
    rw [addr_add]
    exact hg _ _ (hc j hlt)

theorem spans_src {w w3 : World} {ad : Addr} {n cap : Nat} {f g : Nat → Int} (h : PairsAt w (.slice (some ad) n cap) n f g) (hg : ∀ a v, w.cell? a = some v → w3.cell? a = some v) :
    n = 0 ∨ ∃ a, some ad = some a ∧ ∀ j v, (pcells f g n)[j]? = some v → w3.cell? (a.add j) = some v := by
  obtain ⟨a', c', hv, _, h0⟩ := h
  simp only [Value.slice.injEq, true_and] at hv
  obtain ⟨rfl, rfl⟩ := hv
  rcases h0 with h0 | ⟨b, off, hb, hc⟩
  · exact .inl h0
  · right
    refine ⟨ad, rfl, fun j v hj => ?_⟩
    simp only [Option.some.injEq] at hb
    subst hb
    have hlt : j < n * 2 := by
      have := (List.getElem?_eq_some_iff.1 hj).1
      simpa [pcells] using this
    simp [pcells, hlt] at hj
    subst hj
    rw [addr_add]
    have h1 := hc (j / 2) (by omega)
    split
    · rename_i he
      rw [show off + j / 2 * 2 = off + j from by omega] at h1
      exact hg _ _ h1.1
    · rename_i he
      rw [show off + j / 2 * 2 + 1 = off + j from by omega] at h1
      exact hg _ _ h1.2

theorem text_made {w : World} {b len : Nat} {z : Nat → Int} (h : w.heap[b]? = some (.cells (bcells z len).toArray 5 (0, 0))) : TextAt w (.slice (some ⟨b, 0, none⟩) len len) len z := by
  refine ⟨_, rfl, .inr ⟨b, rfl, fun i hi => ?_⟩⟩
  simp [World.cell?, h, bcells, hi]

theorem spans_made {w : World} {b n : Nat} {f g : Nat → Int} (h : w.heap[b]? = some (.cells (pcells f g n).toArray 30 (0, 0))) : SpansAt w (.slice (some ⟨b, 0, none⟩) n n) n f g := by
  refine ⟨_, rfl, .inr ⟨b, rfl, fun i hi => ⟨?_, ?_⟩⟩⟩
  · have h1 : i * 2 < n * 2 := by omega
    have h2 : i * 2 % 2 = 0 := by omega
    have h3 : i * 2 / 2 = i := by omega
    simp [World.cell?, h, pcells, h1, h3]
  · have h1 : i * 2 + 1 < n * 2 := by omega
    have h2 : (i * 2 + 1) % 2 = 1 := by omega
    have h3 : (i * 2 + 1) / 2 = i := by omega
    simp [World.cell?, h, pcells, h1, h2, h3]

theorem text_nil (w : World) (z : Nat → Int) : TextAt w (.slice none 0 0) 0 z := ⟨none, rfl, .inl rfl⟩
theorem spans_nil (w : World) (f g : Nat → Int) : SpansAt w (.slice none 0 0) 0 f g := ⟨none, rfl, .inl rfl⟩

/-- Both stand in every later world. -/
theorem TextAt.later {w w' : World} {v : Value} {len : Nat} {z : Nat → Int} (h : TextAt w v len z) (hb : Below w.heap.size w w') : TextAt w' v len z := by
  obtain ⟨ad, rfl, h0⟩ := h
  refine ⟨ad, rfl, ?_⟩
  rcases h0 with h0 | ⟨b, rfl, hc⟩
  · exact .inl h0
  · exact .inr ⟨b, rfl, fun i hi => (hb.cell (p := ⟨b, i, none⟩) (World.block_lt_of_cell? w _ (hc i hi))).trans (hc i hi)⟩

theorem SpansAt.later {w w' : World} {v : Value} {n : Nat} {f g : Nat → Int} (h : SpansAt w v n f g) (hb : Below w.heap.size w w') : SpansAt w' v n f g := by
  obtain ⟨ad, rfl, h0⟩ := h
  refine ⟨ad, rfl, ?_⟩
  rcases h0 with h0 | ⟨b, rfl, hc⟩
  · exact .inl h0
  · exact .inr ⟨b, rfl, fun i hi => ⟨(hb.cell (p := ⟨b, i * 2, none⟩) (World.block_lt_of_cell? w _ (hc i hi).1)).trans (hc i hi).1, (hb.cell (p := ⟨b, i * 2 + 1, none⟩) (World.block_lt_of_cell? w _ (hc i hi).2)).trans (hc i hi).2⟩⟩

theorem GotAt.later {w w' : World} {v : Value} {P : Nat → Value} {m : Nat} (h : GotAt w v P m) (hb : Below w.heap.size w w') : GotAt w' v P m := by
  obtain ⟨ad, cap, rfl, h1, h2, h0⟩ := h
  refine ⟨ad, cap, rfl, h1, h2, ?_⟩
  rcases h0 with h0 | ⟨b, rfl, hc⟩
  · exact .inl h0
  · exact .inr ⟨b, rfl, fun i hi => (hb.cell (p := ⟨b, i, none⟩) (World.block_lt_of_cell? w _ (hc i hi))).trans (hc i hi)⟩

/-- Piece i of the text whose address is ad. -/
def pieceOf (ad : Option Addr) (len : Nat) (f g : Nat → Int) (i : Nat) : Value := sliced ad (f i).toNat (g i).toNat len 1

/-- What the walks are told of the pieces: they are cut out of T, and each is a slice of bytes. -/
theorem pieces_of {w : World} {T : Value} {len n : Nat} {z f g : Nat → Int} (hl : len ≤ 1048576) (h : TextAt w T len z) (hf : ∀ i, i < n → Fits len f g i) :
    ∃ P, Cuts T f g P n ∧ ∀ i, i < n → RowAt w (P i) ((g i).toNat - (f i).toNat) (fun j => .int .u8 (z ((f i).toNat + j))) := by
  obtain ⟨ad, rfl, h0⟩ := h
  refine ⟨pieceOf ad len f g, fun i hi => ⟨⟨_, _, _, rfl⟩, fun w => ?_⟩, fun i hi => ?_⟩
  · obtain ⟨h1, h2, h3⟩ := hf i hi
    have hsz : (sizeOf (Try.prog.elem 22)).run Try.prog w = .ok 1 w := by kernel_rfl
    rw [run_slice_lh w 22 ad len len Try.underlying22 .i64 .i64 (f i) (g i) h1 h2 h3, hsz]
    rfl
  · obtain ⟨h1, h2, h3⟩ := hf i hi
    refine ⟨_, _, rfl, ?_⟩
    by_cases he : (g i).toNat - (f i).toNat = 0
    · exact .inl he
    · right
      rcases h0 with h0 | ⟨b, rfl, hc⟩
      · omega
      · refine ⟨b, (f i).toNat, ?_, fun j hj => hc _ (by omega)⟩
        rw [if_neg (by omega)]
        simp only [Option.map_some, Nat.mul_one]
        rw [addr_add, Nat.zero_add]

theorem pairs_low {w : World} {sa : Option Addr} {n c : Nat} {f g : Nat → Int} (h : SpansAt w (.slice sa n n) n f g) (hc : c ≤ n) : PairsAt w (.slice sa c n) c f g := by
  obtain ⟨ad, hv, h0⟩ := h
  simp only [Value.slice.injEq, and_true] at hv
  subst hv
  refine ⟨_, _, rfl, hc, ?_⟩
  rcases h0 with h0 | ⟨b, rfl, h0⟩
  · exact .inl (by omega)
  · exact .inr ⟨b, 0, rfl, fun i hi => by rw [Nat.zero_add]; exact h0 i (by omega)⟩

theorem pairs_high {w : World} {sa : Option Addr} {n c : Nat} {f g : Nat → Int} (h : SpansAt w (.slice sa n n) n f g) (hc : c < n) : PairsAt w (.slice (sa.map (·.add (c * 2))) (n - c) (n - c)) (n - c) (fun i => f (c + i)) (fun i => g (c + i)) := by
  obtain ⟨ad, hv, h0⟩ := h
  simp only [Value.slice.injEq, and_true] at hv
  subst hv
  refine ⟨_, _, rfl, Nat.le_refl _, ?_⟩
  rcases h0 with h0 | ⟨b, rfl, h0⟩
  · exact .inl (by omega)
  · refine .inr ⟨b, c * 2, by simp only [Option.map_some]; rw [addr_add, Nat.zero_add], fun i hi => ?_⟩
    have := h0 (c + i) (by omega)
    rw [show c * 2 + i * 2 = (c + i) * 2 from by omega]
    exact this

theorem pairs_end (w : World) (sa : Option Addr) (cap : Nat) (f g : Nat → Int) : PairsAt w (.slice sa 0 cap) 0 f g := ⟨_, _, rfl, Nat.zero_le _, .inl rfl⟩

theorem cuts_low {T : Value} {f g : Nat → Int} {P : Nat → Value} {n c : Nat} (h : Cuts T f g P n) (hc : c ≤ n) : Cuts T f g P c := fun i hi => h i (by omega)
theorem cuts_high {T : Value} {f g : Nat → Int} {P : Nat → Value} {n c : Nat} (h : Cuts T f g P n) : Cuts T (fun i => f (c + i)) (fun i => g (c + i)) (fun i => P (c + i)) (n - c) := fun i hi => h (c + i) (by omega)

theorem cuts_none (T : Value) (f g : Nat → Int) (P : Nat → Value) : Cuts T f g P 0 := fun i hi => by omega

theorem got_low {w : World} {ad : Option Addr} {m cap k : Nat} {P : Nat → Value} (h : GotAt w (.slice ad m cap) P m) (hk : k ≤ m) : RowAt w (.slice ad k cap) k P := by
  obtain ⟨ad', cap', hv, _, _, h0⟩ := h
  simp only [Value.slice.injEq, true_and] at hv
  obtain ⟨rfl, rfl⟩ := hv
  refine ⟨_, _, rfl, ?_⟩
  rcases h0 with h0 | ⟨b, rfl, h0⟩
  · exact .inl (by omega)
  · exact .inr ⟨b, 0, rfl, fun i hi => by rw [Nat.zero_add]; exact h0 i (by omega)⟩

theorem got_high {w : World} {ad : Option Addr} {m cap k : Nat} {P : Nat → Value} (h : GotAt w (.slice ad m cap) P m) (hk : k < m) : RowAt w (.slice (ad.map (·.add k)) (m - k) (cap - k)) (m - k) (fun i => P (k + i)) := by
  obtain ⟨ad', cap', hv, _, _, h0⟩ := h
  simp only [Value.slice.injEq, true_and] at hv
  obtain ⟨rfl, rfl⟩ := hv
  refine ⟨_, _, rfl, ?_⟩
  rcases h0 with h0 | ⟨b, rfl, h0⟩
  · exact .inl (by omega)
  · exact .inr ⟨b, k, by simp only [Option.map_some]; rw [addr_add, Nat.zero_add], fun i hi => h0 (k + i) (by omega)⟩

theorem row_end (w : World) (ad : Option Addr) (cap : Nat) (P : Nat → Value) : RowAt w (.slice ad 0 cap) 0 P := ⟨_, _, rfl, .inl rfl⟩

theorem RowAt.later {w w' : World} {v : Value} {n : Nat} {F : Nat → Value} (h : RowAt w v n F) (hb : Below w.heap.size w w') : RowAt w' v n F := by
  obtain ⟨ad, cap, rfl, h0⟩ := h
  refine ⟨ad, cap, rfl, ?_⟩
  rcases h0 with h0 | ⟨b, off, rfl, hc⟩
  · exact .inl h0
  · exact .inr ⟨b, off, rfl, fun i hi => (hb.cell (p := ⟨b, off + i, none⟩) (World.block_lt_of_cell? w _ (hc i hi))).trans (hc i hi)⟩

/-- Each piece is a slice of bytes. -/
def Pieces (w : World) (P : Nat → Value) (n : Nat) : Prop := ∀ i, i < n → SomeBytes w (P i)
theorem Pieces.later {w w' : World} {P : Nat → Value} {n : Nat} (h : Pieces w P n) (hb : Below w.heap.size w w') : Pieces w' P n := fun i hi => by
  obtain ⟨m, F, hm, hr⟩ := h i hi
  exact ⟨m, F, hm, hr.later hb⟩

/-- What one round of the laws' loops reads: piece k, span k, the cut of the text at span k. -/
theorem round_facts {w : World} {ad sa : Option Addr} {T : Value} {m n cap k : Nat} {P : Nat → Value} {f g : Nat → Int}
    (hG : GotAt w (.slice ad m cap) P m) (hS : SpansAt w (.slice sa n n) n f g) (hC : Cuts T f g P n) (hP : Pieces w P n) (hk : k < m) (hmn : m ≤ n) :
    ∃ b sb pa pn pc, ad = some ⟨b, 0, none⟩ ∧ sa = some ⟨sb, 0, none⟩ ∧ w.cell? ⟨b, k, none⟩ = some (.slice pa pn pc) ∧
      w.cell? ⟨sb, k * 2, none⟩ = some (.int .i64 (f k)) ∧ w.cell? ⟨sb, k * 2 + 1, none⟩ = some (.int .i64 (g k)) ∧
      (∀ w, (Instr.slice 22 T (some (.int .i64 (f k))) (some (.int .i64 (g k))) none).run Try.prog w = .ok (.slice pa pn pc) w) ∧ SomeBytes w (.slice pa pn pc) := by
  obtain ⟨ad', cap', hv, _, _, h0⟩ := hG
  simp only [Value.slice.injEq, true_and] at hv
  obtain ⟨rfl, rfl⟩ := hv
  obtain ⟨sa', hs, h1⟩ := hS
  simp only [Value.slice.injEq, and_true] at hs
  subst hs
  obtain ⟨⟨pa, pn, pc, hp⟩, hrun⟩ := hC k (by omega)
  have hsb := hP k (by omega)
  rcases h0 with h0 | ⟨b, rfl, h0⟩
  · omega
  · rcases h1 with h1 | ⟨sb, rfl, h1⟩
    · omega
    · have c0 := h0 k hk
      rw [hp] at c0 hrun hsb
      exact ⟨b, sb, pa, pn, pc, rfl, rfl, c0, (h1 k (by omega)).1, (h1 k (by omega)).2, hrun, hsb⟩

theorem GotAt.drewN {w : World} {v : Value} {P : Nat → Value} {m : Nat} (h : GotAt w v P m) (q : Nat) : GotAt (w.drewN q) v P m := h
theorem RowAt.drewN {w : World} {v : Value} {n : Nat} {F : Nat → Value} (h : RowAt w v n F) (q : Nat) : RowAt (w.drewN q) v n F := h
theorem SpansAt.drewN {w : World} {v : Value} {n : Nat} {f g : Nat → Int} (h : SpansAt w v n f g) (q : Nat) : SpansAt (w.drewN q) v n f g := h
theorem Pieces.drewN {w : World} {P : Nat → Value} {n : Nat} (h : Pieces w P n) (q : Nat) : Pieces (w.drewN q) P n := h
end Go.Proofs.Qxb6615157a.Ya
