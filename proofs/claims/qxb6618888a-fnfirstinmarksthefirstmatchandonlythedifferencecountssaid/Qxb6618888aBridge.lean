/- THE BRIDGE of the seat b6618888a: what the walk writes, in the plain law's words. -/
import Derived.Test.Qxb6618888aPlain
namespace Go.Proofs.Qxb6618888a.Pl

/-- firstIn(a, b), as a number. -/
def fst (a b : Nat) : Nat := G 8 (a ^^^ b)
/-- The same, as an Int of the model's. -/
def F (a b : Nat) : Int := (fst a b : Int)

theorem c8 : 256 ^ 8 = 18446744073709551616 := by decide
theorem ones8 : ones 8 = 72340172838076673 := by decide
theorem tops8 : tops 8 = 9259542123273814144 := by decide

theorem xor_lt {a b : Nat} (ha : a < 18446744073709551616) (hb : b < 18446744073709551616) : a ^^^ b < 18446744073709551616 := by
  have := Nat.xor_lt_two_pow (n := 64) (x := a) (y := b) (by omega) (by omega); omega

theorem G8_lt (x : Nat) : G 8 x < 18446744073709551616 := by
  have h : G 8 x ≤ tops 8 := by unfold G; exact Nat.and_le_right
  rw [tops8] at h; omega

theorem sub_wrap (x : Nat) : IntKind.u64.wrap ((x : Int) - 72340172838076673) = (((x + (18446744073709551616 - 72340172838076673)) % 18446744073709551616 : Nat) : Int) := by
  rw [IntKind.wrap_u64]; omega

theorem fst_form (a b : Nat) (ha : a < 18446744073709551616) (hb : b < 18446744073709551616) :
    bits .and .u64 (bits .andNot .u64 (IntKind.u64.wrap (bits .xor .u64 (a : Int) (b : Int) - 72340172838076673)) (bits .xor .u64 (a : Int) (b : Int))) 9259542123273814144 = F a b := by
  have hx := xor_lt ha hb
  rw [u64_xor_nat a b ha hb, sub_wrap, u64_andNot_nat _ _ (Nat.mod_lt _ (by omega)) hx]
  rw [show (9259542123273814144 : Int) = ((9259542123273814144 : Nat) : Int) from rfl, u64_and_nat _ _ (Nat.lt_of_le_of_lt Nat.and_le_left (Nat.mod_lt _ (by omega))) (by omega)]
  unfold F fst G
  rw [c8, ones8, tops8]

theorem F_comm (a b : Nat) : F b a = F a b := by unfold F fst; rw [Nat.xor_comm]
theorem F_zero (a b : Nat) : F (a ^^^ b) 0 = F a b := by unfold F fst; rw [Nat.xor_zero]

theorem F_comm_b (a b : Nat) : (F b a != F a b) = false := by rw [F_comm]; simp
theorem F_zero_b (a b : Nat) : (F (a ^^^ b) 0 != F a b) = false := by rw [F_zero]; simp

theorem F_tops (a b : Nat) : (bits .andNot .u64 (F a b) 9259542123273814144 != 0) = false := by
  unfold F fst
  rw [show (9259542123273814144 : Int) = ((9259542123273814144 : Nat) : Int) from rfl, u64_andNot_nat _ _ (G8_lt _) (by omega), ← G_tops, tops8, Nat.and_assoc,
    show (9259542123273814144 &&& (18446744073709551615 - 9259542123273814144) : Nat) = 0 from by decide, Nat.and_zero]
  rfl

/-- Byte k of a is byte k of b. -/
def beq (a b k : Nat) : Bool := ((a : Int) / 2 ^ (8 * k) % 256 == (b : Int) / 2 ^ (8 * k) % 256)

theorem byte_int (a k : Nat) : (a : Int) / 2 ^ (8 * k) % 256 = (byteOf a k : Int) := by
  unfold byteOf
  rw [show (256 : Nat) ^ k = 2 ^ (8 * k) from by rw [Nat.pow_mul]]
  simp

theorem byte_xor (a b k : Nat) : byteOf (a ^^^ b) k = byteOf a k ^^^ byteOf b k := by
  unfold byteOf
  rw [show (256 : Nat) ^ k = 2 ^ (8 * k) from by rw [Nat.pow_mul], Nat.xor_div_two_pow, show (256 : Nat) = 2 ^ 8 from rfl, Nat.xor_mod_two_pow]

theorem xor_zero_iff (x y : Nat) : x ^^^ y = 0 ↔ x = y := by
  constructor
  · intro h
    apply Nat.eq_of_testBit_eq
    intro i
    have h1 : (x ^^^ y).testBit i = false := by rw [h]; simp
    rw [Nat.testBit_xor] at h1
    revert h1
    cases x.testBit i <;> cases y.testBit i <;> simp
  · intro h; rw [h, Nat.xor_self]

theorem beq_iff (a b k : Nat) : beq a b k = true ↔ byteOf (a ^^^ b) k = 0 := by
  unfold beq
  rw [byte_int, byte_int, byte_xor, beq_iff_eq, xor_zero_iff]
  omega

theorem beq_no {a b k : Nat} (h : beq a b k = false) : byteOf (a ^^^ b) k ≠ 0 := by
  intro h0
  rw [(beq_iff a b k).2 h0] at h; cases h

theorem neg_form (r : Nat) (h : r < 18446744073709551616) : bits .xor .u64 IntKind.u64.max (r : Int) + 1 = ((18446744073709551616 - r : Nat) : Int) := by
  have hm : IntKind.u64.max = ((18446744073709551615 : Nat) : Int) := by decide
  have hx : (18446744073709551615 : Nat) ^^^ r = 18446744073709551615 - r := by
    apply Nat.eq_of_testBit_eq
    intro i
    rw [Nat.testBit_xor, show (18446744073709551615 : Nat) = 2 ^ 64 - 1 from rfl, Nat.testBit_two_pow_sub_one, show 2 ^ 64 - 1 - r = 2 ^ 64 - (r + 1) from by omega, Nat.testBit_two_pow_sub_succ (by omega)]
    by_cases hi : i < 64
    · simp [hi]
    · have : r.testBit i = false := Nat.testBit_lt_two_pow (Nat.lt_of_lt_of_le (show r < 2 ^ 64 by omega) (Nat.pow_le_pow_right (by omega) (by omega)))
      simp [hi, this]
  rw [hm, u64_xor_nat _ _ (by omega) h, hx]
  omega

theorem hit_nat (t m r : Nat) (ht : t < 64) (hr : r = 2 ^ t * (2 * m + 1)) (h : r < 18446744073709551616) : r &&& (18446744073709551616 - r) = 2 ^ t := by
  have h64 : (18446744073709551616 : Nat) = 2 ^ (t + ((63 - t) + 1)) := by
    rw [show t + ((63 - t) + 1) = 64 from by omega]
  rw [h64] at h ⊢
  subst hr
  exact low_bit t m (63 - t) h

theorem law_hit (a b k : Nat) (hk : k < 8) (ha : a < 18446744073709551616) (hb : b < 18446744073709551616)
    (hne : ∀ i, i < k → beq a b i = false) (heq : beq a b k = true) :
    (bits .and .u64 (F a b) (IntKind.u64.wrap (bits .xor .u64 IntKind.u64.max (F a b) + 1)) == IntKind.u64.wrap (2 ^ (8 * k + 7))) = true := by
  have hx := xor_lt ha hb
  have hG := G8_lt (a ^^^ b)
  have h0 := (beq_iff a b k).1 heq
  rcases G_shape 8 (a ^^^ b) (by rw [c8]; exact hx) with ⟨h1, _⟩ | ⟨j, hj, h1, h2, m, h3⟩
  · exact absurd h0 (h1 k hk)
  · have hjk : j = k := by
      rcases Nat.lt_trichotomy j k with h | h | h
      · exact absurd h2 (beq_no (hne j h))
      · exact h
      · exact absurd h0 (h1 k h)
    subst hjk
    have hr : G 8 (a ^^^ b) = 2 ^ (8 * j + 7) * (2 * m + 1) := by
      rw [h3, show (256 : Nat) ^ j = 2 ^ (8 * j) from by rw [Nat.pow_mul], Nat.pow_add, Nat.mul_assoc]
      congr 1
      omega
    have hp : 0 < 2 ^ (8 * j + 7) := Nat.two_pow_pos _
    have hpos : 0 < G 8 (a ^^^ b) := by rw [hr]; exact Nat.mul_pos hp (by omega)
    have hlow := hit_nat (8 * j + 7) m _ (by omega) hr hG
    unfold F fst
    rw [neg_form _ hG, IntKind.wrap_u64, IntKind.wrap_u64]
    generalize G 8 (a ^^^ b) = r at *
    have e1 : ((18446744073709551616 - r : Nat) : Int) % 18446744073709551616 = ((18446744073709551616 - r : Nat) : Int) := by omega
    rw [e1, u64_and_nat _ _ hG (by omega), hlow]
    have h7 : 2 ^ (8 * j + 7) ≤ 2 ^ 63 := Nat.pow_le_pow_right (by omega) (by omega)
    have e2 : (2 : Int) ^ (8 * j + 7) = ((2 ^ (8 * j + 7) : Nat) : Int) := by simp
    rw [e2]
    generalize 2 ^ (8 * j + 7) = p at *
    rw [beq_iff_eq]
    omega

theorem law_none (a b : Nat) (ha : a < 18446744073709551616) (hb : b < 18446744073709551616) (hne : ∀ i, i < 8 → beq a b i = false) : (F a b == 0) = true := by
  rcases G_shape 8 (a ^^^ b) (by rw [c8]; exact xor_lt ha hb) with ⟨_, h⟩ | ⟨j, hj, _, h2, _⟩
  · unfold F fst; rw [h]; rfl
  · exact absurd h2 (beq_no (hne j hj))
end Go.Proofs.Qxb6618888a.Pl
