/- THE PLAIN MATHEMATICS of the seat b6618888a: '(x - 0x01..01) &^ x & 0x80..80' byte by byte. No Go program in sight. -/
import Derived.Laws.BitsAllLaws
namespace Go.Proofs.Qxb6618888a.Pl

/-- n bytes, each 1. -/
def ones : Nat → Nat
  | 0 => 0
  | n + 1 => 1 + 256 * ones n
/-- n bytes, each 128. -/
def tops : Nat → Nat
  | 0 => 0
  | n + 1 => 128 + 256 * tops n
/-- firstIn at n bytes, of the difference x. -/
def G (n x : Nat) : Nat := ((x + (256 ^ n - ones n)) % 256 ^ n &&& (256 ^ n - 1 - x)) &&& tops n

theorem ones_lt : ∀ n, ones n < 256 ^ n
  | 0 => by decide
  | n + 1 => by have := ones_lt n; unfold ones; rw [Nat.pow_succ]; omega

theorem split256 (z : Nat) : z = z % 256 + 256 * (z / 256) := by omega

theorem and_split (b d x y : Nat) (hb : b < 256) (hd : d < 256) : (b + 256 * x) &&& (d + 256 * y) = (b &&& d) + 256 * (x &&& y) := by
  have h1 : ((b + 256 * x) &&& (d + 256 * y)) % 2 ^ 8 = b &&& d := by
    rw [Nat.and_mod_two_pow, show (b + 256 * x) % 2 ^ 8 = b from by omega, show (d + 256 * y) % 2 ^ 8 = d from by omega]
  have h2 : ((b + 256 * x) &&& (d + 256 * y)) / 2 ^ 8 = x &&& y := by
    rw [Nat.and_div_two_pow, show (b + 256 * x) / 2 ^ 8 = x from by omega, show (d + 256 * y) / 2 ^ 8 = y from by omega]
  have h3 := split256 ((b + 256 * x) &&& (d + 256 * y))
  rw [show (256 : Nat) = 2 ^ 8 from rfl] at h3
  rw [h1, h2] at h3
  rw [show (256 : Nat) = 2 ^ 8 from rfl]; exact h3

theorem mod_split (d z P : Nat) (hd : d < 256) : (d + 256 * z) % (256 * P) = d + 256 * (z % P) := by
  rw [Nat.mod_mul, show (d + 256 * z) % 256 = d from by omega, show (d + 256 * z) / 256 = z from by omega]

theorem byte_clear : ∀ b : Fin 256, (b : Nat) ≠ 0 → (((b : Nat) - 1) &&& (255 - (b : Nat))) &&& 128 = 0 := by decide +kernel

theorem G_step (n b x : Nat) (hb : b < 256) (hb0 : b ≠ 0) (hx : x < 256 ^ n) : G (n + 1) (b + 256 * x) = 256 * G n x := by
  have ho := ones_lt n
  unfold G
  simp only [ones, tops]
  rw [Nat.pow_succ, Nat.mul_comm (256 ^ n) 256]
  generalize 256 ^ n = P at *
  generalize ones n = o at *
  rw [show b + 256 * x + (256 * P - (1 + 256 * o)) = (b - 1) + 256 * (x + (P - o)) from by omega, mod_split _ _ _ (by omega),
    show 256 * P - 1 - (b + 256 * x) = (255 - b) + 256 * (P - 1 - x) from by omega,
    and_split _ _ _ _ (by omega) (by omega), and_split _ _ _ _ (Nat.lt_of_le_of_lt Nat.and_le_left (by omega)) (by omega)]
  have := byte_clear ⟨b, hb⟩ hb0
  simp only at this
  rw [this, Nat.zero_add]

theorem G_hit (n x : Nat) (hx : x < 256 ^ n) : ∃ m, G (n + 1) (256 * x) = 128 + 256 * m := by
  have ho := ones_lt n
  unfold G
  simp only [ones, tops]
  rw [Nat.pow_succ, Nat.mul_comm (256 ^ n) 256]
  generalize 256 ^ n = P at *
  generalize ones n = o at *
  rw [show 256 * x + (256 * P - (1 + 256 * o)) = 255 + 256 * (x + (P - o) - 1) from by omega, mod_split _ _ _ (by omega),
    show 256 * P - 1 - 256 * x = 255 + 256 * (P - 1 - x) from by omega,
    and_split _ _ _ _ (by omega) (by omega), and_split _ _ _ _ (by decide) (by omega)]
  exact ⟨_, rfl⟩

/-- byte j of x. -/
def byteOf (x j : Nat) : Nat := x / 256 ^ j % 256

theorem byteOf_zero (b x : Nat) (hb : b < 256) : byteOf (b + 256 * x) 0 = b := by unfold byteOf; rw [Nat.pow_zero, Nat.div_one]; omega
theorem byteOf_succ (b x j : Nat) (hb : b < 256) : byteOf (b + 256 * x) (j + 1) = byteOf x j := by
  unfold byteOf
  rw [Nat.pow_succ, Nat.mul_comm (256 ^ j) 256, ← Nat.div_div_eq_div_mul, show (b + 256 * x) / 256 = x from by omega]

theorem G_shape : ∀ (n x : Nat), x < 256 ^ n →
    ((∀ j, j < n → byteOf x j ≠ 0) ∧ G n x = 0) ∨
    ∃ j, j < n ∧ (∀ i, i < j → byteOf x i ≠ 0) ∧ byteOf x j = 0 ∧ ∃ m, G n x = 256 ^ j * (128 + 256 * m)
  | 0, x, hx => .inl ⟨fun j hj => by omega, by unfold G; simp [tops]⟩
  | n + 1, x, hx => by
    have hs := split256 x
    have hb : x % 256 < 256 := by omega
    have hx' : x / 256 < 256 ^ n := by rw [Nat.pow_succ] at hx; omega
    generalize x % 256 = b at *
    generalize x / 256 = x' at *
    subst hs
    by_cases hb0 : b = 0
    · subst hb0
      obtain ⟨m, hm⟩ := G_hit n x' hx'
      right
      refine ⟨0, by omega, fun i hi => by omega, byteOf_zero 0 x' (by omega), m, ?_⟩
      rw [Nat.zero_add, hm, Nat.pow_zero, Nat.one_mul]
    · have hst := G_step n b x' hb hb0 hx'
      rcases G_shape n x' hx' with ⟨h1, h2⟩ | ⟨j, hj, h1, h2, m, h3⟩
      · left
        refine ⟨fun j hj => ?_, by rw [hst, h2]⟩
        cases j with
        | zero => rw [byteOf_zero b x' hb]; exact hb0
        | succ j => rw [byteOf_succ b x' j hb]; exact h1 j (by omega)
      · right
        refine ⟨j + 1, by omega, fun i hi => ?_, ?_, m, ?_⟩
        · cases i with
          | zero => rw [byteOf_zero b x' hb]; exact hb0
          | succ i => rw [byteOf_succ b x' i hb]; exact h1 i (by omega)
        · rw [byteOf_succ b x' j hb]; exact h2
        · rw [hst, h3, Nat.pow_succ, Nat.mul_comm (256 ^ j) 256, Nat.mul_assoc]

theorem G_tops (n x : Nat) : G n x &&& tops n = G n x := by unfold G; rw [Nat.and_assoc, Nat.and_self]

/-! ### the lowest set bit -/
theorem and_compl (k m : Nat) : m &&& (2 ^ k - 1 - m) = 0 := by
  apply Nat.eq_of_testBit_eq
  intro i
  by_cases hm : m < 2 ^ k
  · rw [Nat.testBit_and, Nat.zero_testBit, show 2 ^ k - 1 - m = 2 ^ k - (m + 1) from by omega, Nat.testBit_two_pow_sub_succ hm]
    cases m.testBit i <;> simp
  · rw [show 2 ^ k - 1 - m = 0 from by omega, Nat.and_zero]

theorem and_double (x y : Nat) : (2 * x + 1) &&& (2 * y + 1) = 2 * (x &&& y) + 1 := by
  have h1 : ((2 * x + 1) &&& (2 * y + 1)) % 2 ^ 1 = 1 := by
    rw [Nat.and_mod_two_pow, show (2 * x + 1) % 2 ^ 1 = 1 from by omega, show (2 * y + 1) % 2 ^ 1 = 1 from by omega]; rfl
  have h2 : ((2 * x + 1) &&& (2 * y + 1)) / 2 ^ 1 = x &&& y := by
    rw [Nat.and_div_two_pow, show (2 * x + 1) / 2 ^ 1 = x from by omega, show (2 * y + 1) / 2 ^ 1 = y from by omega]
  omega

theorem low_bit (t m k : Nat) (h : 2 ^ t * (2 * m + 1) < 2 ^ (t + (k + 1))) :
    (2 ^ t * (2 * m + 1)) &&& (2 ^ (t + (k + 1)) - 2 ^ t * (2 * m + 1)) = 2 ^ t := by
  have hp : 0 < 2 ^ t := Nat.two_pow_pos t
  have e1 : 2 ^ (t + (k + 1)) = 2 ^ t * (2 * 2 ^ k) := by rw [Nat.pow_add, Nat.pow_succ, Nat.mul_comm (2 ^ k) 2]
  rw [e1] at h ⊢
  have hm : 2 * m + 1 < 2 * 2 ^ k := Nat.lt_of_mul_lt_mul_left h
  rw [← Nat.mul_sub, show 2 * 2 ^ k - (2 * m + 1) = 2 * (2 ^ k - 1 - m) + 1 from by omega]
  have e2 : ∀ z, 2 ^ t * z = z <<< t := fun z => by rw [Nat.shiftLeft_eq, Nat.mul_comm]
  rw [e2, e2, ← Nat.shiftLeft_and_distrib, and_double, and_compl, Nat.shiftLeft_eq]
  simp
end Go.Proofs.Qxb6618888a.Pl
