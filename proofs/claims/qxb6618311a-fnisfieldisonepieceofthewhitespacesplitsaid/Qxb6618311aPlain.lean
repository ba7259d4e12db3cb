/- THE PLAIN MATHEMATICS of the seat b6618311a: white-space bytes, Go's decoding of a string, 'is a field'. No Go program in sight. -/
import Derived.Lib.TrimU
namespace Go.Proofs.Qxb6618311a.Pl
open Go.Lib

/-- The number is that of an ASCII white-space character. -/
def sepN (n : Nat) : Bool := n == 32 || (decide (9 ≤ n) && decide (n ≤ 13))

theorem sepN_lt {n : Nat} (h : sepN n = true) : n < 128 := by
  simp [sepN] at h; omega

/-- Byte i of s is white space. -/
def sepAt (s : ByteArray) (i : Nat) : Bool := sepN (s.get! i).toNat

theorem decodeN_shape (n b0 b1 b2 b3 : Nat) :
    (b0 < 128 ∧ decodeN n b0 b1 b2 b3 = (b0, 1)) ∨
    (128 ≤ b0 ∧ 128 ≤ (decodeN n b0 b1 b2 b3).1 ∧ 1 ≤ (decodeN n b0 b1 b2 b3).2 ∧ (decodeN n b0 b1 b2 b3).2 ≤ 4 ∧
      (2 ≤ (decodeN n b0 b1 b2 b3).2 → 128 ≤ b1) ∧ (3 ≤ (decodeN n b0 b1 b2 b3).2 → 128 ≤ b2) ∧ (4 ≤ (decodeN n b0 b1 b2 b3).2 → 128 ≤ b3)) := by
  by_cases h : b0 < 128
  · left; exact ⟨h, by simp [decodeN, h]⟩
  · right
    refine ⟨by omega, ?_⟩
    unfold decodeN
    rw [if_neg h]
    repeat' split
    all_goals simp only
    all_goals omega

/-- One step of Go's range over a string: an ASCII byte is decoded as itself; of any other rune no byte is ASCII. -/
theorem decode_shape (s : ByteArray) (pos : Nat) :
    ((s.get! pos).toNat < 128 ∧ (Utf8.decode s pos).1 = (s.get! pos).toNat ∧ (Utf8.decode s pos).2 = 1) ∨
    (128 ≤ (Utf8.decode s pos).1 ∧ ∀ i, pos ≤ i → i < pos + (Utf8.decode s pos).2 → 128 ≤ (s.get! i).toNat) := by
  rw [decode_at]
  rcases decodeN_shape (s.size - pos) (s.get! pos).toNat (s.get! (pos + 1)).toNat (s.get! (pos + 2)).toNat (s.get! (pos + 3)).toNat with ⟨h, e⟩ | ⟨h0, hr, h1, h4, a1, a2, a3⟩
  · rw [e]; exact .inl ⟨h, rfl, rfl⟩
  · right
    refine ⟨hr, fun i hi1 hi2 => ?_⟩
    obtain ⟨j, rfl⟩ : ∃ j, i = pos + j := ⟨i - pos, by omega⟩
    have hj : j = 0 ∨ j = 1 ∨ j = 2 ∨ j = 3 := by omega
    rcases hj with rfl | rfl | rfl | rfl
    · exact h0
    · exact a1 (by omega)
    · exact a2 (by omega)
    · exact a3 (by omega)

/-- The rune at pos is white space just if the byte at pos is. -/
theorem rune_sep (s : ByteArray) (pos : Nat) (h : sepN (Utf8.decode s pos).1 = true) : sepAt s pos = true := by
  rcases decode_shape s pos with ⟨_, e, _⟩ | ⟨hr, _⟩
  · unfold sepAt; rw [← e]; exact h
  · have := sepN_lt h; omega

/-- If it is not, none of the rune's bytes is. -/
theorem rune_not (s : ByteArray) (pos : Nat) (h : sepN (Utf8.decode s pos).1 = false) (i : Nat) (h1 : pos ≤ i) (h2 : i < pos + (Utf8.decode s pos).2) : sepAt s i = false := by
  rcases decode_shape s pos with ⟨_, e, k⟩ | ⟨hr, hall⟩
  · have : i = pos := by omega
    subst this
    unfold sepAt; rw [← e]; exact h
  · have h3 := hall i h1 h2
    cases hs : sepAt s i
    · rfl
    · have := sepN_lt hs; omega

/-- White space somewhere in s. -/
def hasSep (s : ByteArray) : Bool := (List.range s.size).any (sepAt s)

theorem hasSep_yes {s : ByteArray} {i : Nat} (hi : i < s.size) (h : sepAt s i = true) : hasSep s = true := by
  unfold hasSep; rw [List.any_eq_true]; exact ⟨i, by simpa using hi, h⟩

theorem hasSep_no {s : ByteArray} (h : ∀ i, i < s.size → sepAt s i = false) : hasSep s = false := by
  unfold hasSep; rw [List.any_eq_false]; intro i hi; rw [h i (by simpa using hi)]; simp

theorem of_hasSep_no {s : ByteArray} (h : hasSep s = false) {i : Nat} (hi : i < s.size) : sepAt s i = false := by
  cases hs : sepAt s i
  · rfl
  · rw [hasSep_yes hi hs] at h; cases h

/-- What IsField answers. -/
def isFld (t : ByteArray) : Bool := decide (t.size ≠ 0) && !hasSep t

theorem isFld_iff (t : ByteArray) : isFld t = true ↔ 0 < t.size ∧ ∀ i, i < t.size → sepAt t i = false := by
  unfold isFld
  simp only [Bool.and_eq_true, decide_eq_true_eq, Bool.not_eq_true']
  exact ⟨fun ⟨h1, h2⟩ => ⟨by omega, fun i hi => of_hasSep_no h2 hi⟩, fun ⟨h1, h2⟩ => ⟨by omega, hasSep_no h2⟩⟩

theorem get_extract (s : ByteArray) (a b i : Nat) (hb : b ≤ s.size) (hi : i < b - a) : (s.extract a b).get! i = s.get! (a + i) := by
  have h1 : i < (s.extract a b).size := by rw [ByteArray.size_extract]; omega
  have h2 : a + i < s.size := by omega
  have e1 : (s.extract a b).get! i = (s.extract a b)[i] := by
    show (s.extract a b).data[i]! = _
    rw [getElem!_pos (s.extract a b).data i h1]; rfl
  have e2 : s.get! (a + i) = s[a + i] := by
    show s.data[a + i]! = _
    rw [getElem!_pos s.data (a + i) h2]; rfl
  rw [e1, e2, ByteArray.getElem_extract]

theorem get_at (s : ByteArray) (i : Nat) (h : i < s.size) : s.get! i = s[i] := by
  show s.data[i]! = _
  rw [getElem!_pos s.data i h]; rfl

theorem fld_cut (s : ByteArray) (a b : Nat) (hb : b ≤ s.size) :
    isFld (s.extract a b) = true ↔ a < b ∧ ∀ i, a ≤ i → i < b → sepAt s i = false := by
  rw [isFld_iff]
  have hz : (s.extract a b).size = b - a := by rw [ByteArray.size_extract]; omega
  rw [hz]
  constructor
  · rintro ⟨h1, h2⟩
    refine ⟨by omega, fun i ha hi => ?_⟩
    have := h2 (i - a) (by omega)
    unfold sepAt at this
    rw [get_extract s a b (i - a) hb (by omega), show a + (i - a) = i from by omega] at this
    exact this
  · rintro ⟨h1, h2⟩
    refine ⟨by omega, fun i hi => ?_⟩
    unfold sepAt
    rw [get_extract s a b i hb hi]
    exact h2 (a + i) (by omega) (by omega)

/-- A piece without white space is a field. -/
theorem fld_yes (s : ByteArray) (a b : Nat) (hb : b ≤ s.size) (hab : a < b) (h : ∀ i, a ≤ i → i < b → sepAt s i = false) : isFld (s.extract a b) = true :=
  (fld_cut s a b hb).2 ⟨hab, h⟩

/-- A piece with white space at j is none. -/
theorem fld_no (s : ByteArray) (a b j : Nat) (hb : b ≤ s.size) (ha : a ≤ j) (hj : j < b) (h : sepAt s j = true) : isFld (s.extract a b) = false := by
  cases hf : isFld (s.extract a b)
  · rfl
  · have := ((fld_cut s a b hb).1 hf).2 j ha hj
    rw [h] at this; cases this

/-- The whole is a field. -/
theorem whole_yes (s : ByteArray) (h0 : 0 < s.size) (h : ∀ i, i < s.size → sepAt s i = false) : isFld s = true := (isFld_iff s).2 ⟨h0, h⟩
theorem whole_no (s : ByteArray) (j : Nat) (hj : j < s.size) (h : sepAt s j = true) : isFld s = false := by
  cases hf : isFld s
  · rfl
  · have := ((isFld_iff s).1 hf).2 j hj
    rw [h] at this; cases this
theorem whole_empty (s : ByteArray) (h : s.size = 0) : isFld s = false := by
  unfold isFld; simp [h]

/-- WHERE THE CUT STANDS AFTER k BYTES: no piece is open (none has begun, or a white-space byte stands just before); or a piece is open since byte j, which is the first or follows white space. -/
def Cut (s : ByteArray) (k : Nat) (st : Int) : Prop :=
  (st = -1 ∧ (k = 0 ∨ sepAt s (k - 1) = true)) ∨ ∃ j : Nat, st = (j : Int) ∧ j < k ∧ (∀ i, j ≤ i → i < k → sepAt s i = false) ∧ (j = 0 ∨ sepAt s (j - 1) = true)
end Go.Proofs.Qxb6618311a.Pl
