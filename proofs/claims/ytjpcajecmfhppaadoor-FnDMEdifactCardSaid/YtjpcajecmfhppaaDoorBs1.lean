/-
  PLAIN: bits of words, the highest one first, as numbers.
-/
import Derived.Test.YtjpcajecmfhppaaDoorBase
namespace Go.Proofs.YtjpcajecmfhppaaDoor
open Go.RowKit

/-- Bit p of bytes, the highest one of each first. -/
def bitB (bs : List Nat) (p : Nat) : Nat := bs.getD (p / 8) 0 / 2 ^ (7 - p % 8) % 2
/-- The number of n bits from p on. -/
def rb (bs : List Nat) (p : Nat) : Nat → Nat
  | 0 => 0
  | n + 1 => 2 * rb bs p n + bitB bs (p + n)
theorem rb_lt (bs : List Nat) (p : Nat) : ∀ n, rb bs p n < 2 ^ n
  | 0 => by simp [rb]
  | n + 1 => by
    have h := rb_lt bs p n
    have hb : bitB bs (p + n) < 2 := Nat.mod_lt _ (by decide)
    unfold rb
    rw [Nat.pow_succ]
    omega
theorem rb_add (bs : List Nat) (p a : Nat) : ∀ b, rb bs p (a + b) = rb bs p a * 2 ^ b + rb bs (p + a) b
  | 0 => by simp [rb]
  | b + 1 => by
    have h := rb_add bs p a b
    show 2 * rb bs p (a + b) + bitB bs (p + (a + b)) = _
    rw [h]
    show _ = rb bs p a * 2 ^ (b + 1) + (2 * rb bs (p + a) b + bitB bs (p + a + b))
    rw [Nat.pow_succ, Nat.add_assoc p a b]
    generalize bitB bs (p + (a + b)) = z
    rw [Nat.mul_add, ← Nat.mul_assoc, Nat.mul_comm 2 (rb bs p a), Nat.mul_assoc, Nat.mul_comm 2 (2 ^ b)]
    omega
theorem div_bit (b i : Nat) : b / 2 ^ i = 2 * (b / 2 ^ (i + 1)) + b / 2 ^ i % 2 := by
  rw [Nat.pow_succ, ← Nat.div_div_eq_div_mul]
  omega
/-- Bits within one byte. -/
theorem rb_in (bs : List Nat) (q o : Nat) : ∀ k, o + k ≤ 8 → rb bs (8 * q + o) k = bs.getD q 0 / 2 ^ (8 - o - k) % 2 ^ k
  | 0, _ => by simp [rb, Nat.mod_one]
  | k + 1, h => by
    have ih := rb_in bs q o k (by omega)
    unfold rb
    rw [ih]
    unfold bitB
    rw [show (8 * q + o + k) / 8 = q by omega, show (8 * q + o + k) % 8 = o + k by omega]
    generalize bs.getD q 0 = b
    rw [show 8 - o - k = (8 - o - (k + 1)) + 1 by omega, show 7 - (o + k) = 8 - o - (k + 1) by omega]
    generalize 8 - o - (k + 1) = i
    have e := div_bit b i
    rw [show b / 2 ^ i % 2 ^ (k + 1) = (2 * (b / 2 ^ (i + 1)) + b / 2 ^ i % 2) % 2 ^ (k + 1) by rw [← e]]
    generalize b / 2 ^ (i + 1) = c
    have hz : b / 2 ^ i % 2 < 2 := Nat.mod_lt _ (by decide)
    generalize b / 2 ^ i % 2 = z at *
    rw [Nat.pow_succ, Nat.mul_comm (2 ^ k) 2, Nat.mod_mul]
    have e1 : (2 * c + z) % 2 = z := by omega
    have e2 : (2 * c + z) / 2 = c := by omega
    rw [e1, e2]
    omega
/-- A whole byte. -/
theorem rb_byte (bs : List Nat) (q : Nat) (h : bs.getD q 0 < 256) : rb bs (8 * q) 8 = bs.getD q 0 := by
  have e := rb_in bs q 0 8 (by decide)
  rw [Nat.add_zero] at e
  rw [e, Nat.sub_zero, Nat.sub_self, Nat.pow_zero, Nat.div_one, Nat.mod_eq_of_lt h]
/-- A byte's bits by a mask. -/
theorem mask_all : ∀ b, b < 256 → ∀ t, t < 9 → ∀ r, r < 9 → t + r ≤ 8 → Nat.land b (255 / 2 ^ (8 - t) * 2 ^ r % 256) / 2 ^ r = b / 2 ^ r % 2 ^ t := by
  decide +kernel
end Go.Proofs.YtjpcajecmfhppaaDoor
