/-
  WALKS: bits.OnesCount64, bits.OnesCount, of numbers of at most 18 bits; the count of bits.
-/
import Derived.Test.YtcldipbboidjbaaU32
namespace Go.Proofs.Ytcldipbboidjbaa
open Go.RowKit

theorem u64_of (a : Nat) (ha : a < 18446744073709551616) : (BitVec.ofInt 64 (a : Int)).toNat = a := by
  rw [BitVec.ofInt_natCast, BitVec.toNat_ofNat]; exact Nat.mod_eq_of_lt (by omega)
theorem u64_and (a b : Nat) (ha : a < 18446744073709551616) (hb : b < 18446744073709551616) : bits .and .u64 (a : Int) (b : Int) = ((a &&& b : Nat) : Int) := by
  have hx : a &&& b < 2 ^ 64 := Nat.and_lt_two_pow _ (by omega)
  show IntKind.u64.wrap ((BitVec.ofInt 64 (a : Int) &&& BitVec.ofInt 64 (b : Int)).toNat : Int) = _
  rw [BitVec.toNat_and, u64_of a ha, u64_of b hb, IntKind.wrap_u64]
  omega
theorem u64_xor (a b : Nat) (ha : a < 18446744073709551616) (hb : b < 18446744073709551616) : bits .xor .u64 (a : Int) (b : Int) = ((a ^^^ b : Nat) : Int) := by
  have hx : a ^^^ b < 2 ^ 64 := Nat.xor_lt_two_pow (by omega) (by omega)
  show IntKind.u64.wrap ((BitVec.ofInt 64 (a : Int) ^^^ BitVec.ofInt 64 (b : Int)).toNat : Int) = _
  rw [BitVec.toNat_xor, u64_of a ha, u64_of b hb, IntKind.wrap_u64]
  omega
def ocA (x : Nat) : Nat := Nat.add (Nat.land (Nat.div x 2) 6148914691236517205) (Nat.land x 6148914691236517205)
def ocB (a : Nat) : Nat := Nat.add (Nat.land (Nat.div a 4) 3689348814741910323) (Nat.land a 3689348814741910323)
def ocC (b : Nat) : Nat := Nat.land (Nat.add (Nat.div b 16) b) 1085102592571150095
def ocD (c : Nat) : Nat := Nat.add c (Nat.div c 256)
def ocE (c : Nat) : Nat := Nat.add c (Nat.div c 65536)
def ocF (c : Nat) : Nat := Nat.land (Nat.add c (Nat.div c 4294967296)) 127
/-- What bits.OnesCount64 reckons. -/
def oc (x : Nat) : Nat := ocF (ocE (ocD (ocC (ocB (ocA x)))))
def p3 (x : Nat) : Nat := Nat.add (Nat.mod x 2) (Nat.add (Nat.mod (Nat.div x 2) 2) (Nat.mod (Nat.div x 4) 2))
/-- How many of 18 bits are set. -/
def pc (x : Nat) : Nat := Nat.add (p3 x) (Nat.add (p3 (Nat.div x 8)) (Nat.add (p3 (Nat.div x 64)) (Nat.add (p3 (Nat.div x 512)) (Nat.add (p3 (Nat.div x 4096)) (p3 (Nat.div x 32768))))))
/-- A fact of all numbers of d bits behind b, by reckoning. -/
def allB (f : Nat → Bool) : Nat → Nat → Bool
  | 0, b => f b
  | d + 1, b => cond (allB f d (Nat.mul 2 b)) (allB f d (Nat.succ (Nat.mul 2 b))) false
theorem allB_spec (f : Nat → Bool) : ∀ (d b z : Nat), allB f d b = true → b * 2 ^ d ≤ z → z < (b + 1) * 2 ^ d → f z = true
  | 0, b, z, h, h1, h2 => by
    have : z = b := by simp at h1 h2; omega
    subst this; exact h
  | d + 1, b, z, h, h1, h2 => by
    have h' : allB f d (2 * b) = true ∧ allB f d (2 * b + 1) = true := by
      have h9 : cond (allB f d (2 * b)) (allB f d (2 * b + 1)) false = true := h
      cases hx : allB f d (2 * b)
      · rw [hx] at h9; cases h9
      · rw [hx] at h9; exact ⟨rfl, h9⟩
    have e1 : b * 2 ^ (d + 1) = 2 * b * 2 ^ d := by rw [Nat.pow_succ]; ac_rfl
    have e2 : (b + 1) * 2 ^ (d + 1) = (2 * b + 1 + 1) * 2 ^ d := by rw [Nat.pow_succ, show 2 * b + 1 + 1 = (b + 1) * 2 by omega]; ac_rfl
    rw [e1] at h1; rw [e2] at h2
    rcases Nat.lt_or_ge z ((2 * b + 1) * 2 ^ d) with h3 | h3
    · exact allB_spec f d _ z h'.1 h1 h3
    · exact allB_spec f d _ z h'.2 h3 h2
def okOc (x : Nat) : Bool := Nat.beq (oc x) (pc x)
def okSt (x : Nat) : Bool := Nat.beq (pc x) (cond (Nat.beq x 0) (pc x) (Nat.succ (pc (Nat.land x (Nat.sub x 1)))))
theorem oc_all : allB okOc 15 0 = true := by decide +kernel
theorem step_all : allB okSt 15 0 = true := by decide +kernel
theorem oc_of {x : Nat} (h : okOc x = true) : oc x = pc x := Nat.eq_of_beq_eq_true h
theorem st_of {x : Nat} (h : okSt x = true) (h0 : x ≠ 0) : pc x = pc (x &&& (x - 1)) + 1 := by
  have h1 := Nat.eq_of_beq_eq_true h
  have h2 : Nat.beq x 0 = false := by
    cases hb : Nat.beq x 0
    · rfl
    · exact absurd (Nat.eq_of_beq_eq_true hb) h0
  rw [h2] at h1
  exact h1
theorem oc_pc (x : Nat) (h : x < 32768) : oc x = pc x := oc_of (allB_spec _ 15 0 x oc_all (by omega) (by omega))
theorem pc_step (x : Nat) (h : x < 32768) (h0 : x ≠ 0) : pc x = pc (x &&& (x - 1)) + 1 := st_of (allB_spec _ 15 0 x step_all (by omega) (by omega)) h0
theorem pc_zero : pc 0 = 0 := rfl
theorem pc_le (x : Nat) : pc x ≤ 18 := by
  have h : ∀ y, p3 y ≤ 3 := fun y => by
    show y % 2 + (y / 2 % 2 + y / 4 % 2) ≤ 3
    omega
  show p3 x + (p3 (x / 8) + (p3 (x / 64) + (p3 (x / 512) + (p3 (x / 4096) + p3 (x / 32768))))) ≤ 18
  have h1 := h x; have h2 := h (x / 8); have h3 := h (x / 64); have h4 := h (x / 512); have h5 := h (x / 4096); have h6 := h (x / 32768)
  omega
end Go.Proofs.Ytcldipbboidjbaa
