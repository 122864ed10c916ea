/-
  GROUND: words of 32 bits.
-/
import Derived.Test.YtcldipbboidjbaaBase
namespace Go.Proofs.Ytcldipbboidjbaa
open Go.RowKit

theorem u32_of (a : Nat) (ha : a < 4294967296) : (BitVec.ofInt 32 (a : Int)).toNat = a := by
  rw [BitVec.ofInt_natCast, BitVec.toNat_ofNat]; exact Nat.mod_eq_of_lt (by omega)
theorem u32_and (a b : Nat) (ha : a < 4294967296) (hb : b < 4294967296) : bits .and .u32 (a : Int) (b : Int) = ((a &&& b : Nat) : Int) := by
  have hx : a &&& b < 2 ^ 32 := Nat.and_lt_two_pow _ (by omega)
  show IntKind.u32.wrap ((BitVec.ofInt 32 (a : Int) &&& BitVec.ofInt 32 (b : Int)).toNat : Int) = _
  rw [BitVec.toNat_and, u32_of a ha, u32_of b hb, IntKind.wrap_u32]
  omega
theorem u32_or (a b : Nat) (ha : a < 4294967296) (hb : b < 4294967296) : bits .or .u32 (a : Int) (b : Int) = ((a ||| b : Nat) : Int) := by
  have hx : a ||| b < 2 ^ 32 := Nat.or_lt_two_pow (by omega) (by omega)
  show IntKind.u32.wrap ((BitVec.ofInt 32 (a : Int) ||| BitVec.ofInt 32 (b : Int)).toNat : Int) = _
  rw [BitVec.toNat_or, u32_of a ha, u32_of b hb, IntKind.wrap_u32]
  omega
theorem pow32 (k : Nat) (h : k < 32) : (2 : Int) ^ k % 4294967296 = ((2 ^ k : Nat) : Int) := by
  have h2 : 2 ^ k < 4294967296 := Nat.pow_lt_pow_right (n := 32) (by decide) h
  have e : (2 : Int) ^ k = ((2 ^ k : Nat) : Int) := by simp
  rw [e]
  generalize 2 ^ k = q at *
  omega
theorem bit_and (x k : Nat) : (((x &&& 2 ^ k : Nat) : Int) != 0) = x.testBit k := by
  have h : (x &&& 2 ^ k = 0) ↔ x.testBit k = false := by
    constructor
    · intro h
      have := congrArg (fun n => n.testBit k) h
      simpa [Nat.testBit_and] using this
    · intro h
      apply Nat.eq_of_testBit_eq
      intro i
      rw [Nat.testBit_and, Nat.testBit_two_pow]
      by_cases hi : k = i
      · subst hi; simp [h]
      · simp [hi]
  rw [Bool.eq_iff_iff]
  cases hb : x.testBit k
  · simp [h.2 hb]
  · have : ¬ (x &&& 2 ^ k = 0) := fun h0 => by rw [h.1 h0] at hb; cases hb
    simp; omega
/-- Words as values. -/
def wv (ws : List Nat) : List Value := ws.map fun n : Nat => Value.int .u32 (n : Int)
theorem wv_len (ws : List Nat) : (wv ws).length = ws.length := by simp [wv]
theorem wv_at (ws : List Nat) (i : Nat) (h : i < ws.length) : (wv ws).toArray[i]? = some (.int .u32 ((ws[i] : Nat) : Int)) := by simp [wv, h]
theorem wv_set (ws : List Nat) (i v : Nat) : (wv ws).toArray.setIfInBounds i (.int .u32 (v : Int)) = (wv (ws.set i v)).toArray := by
  simp [wv, List.map_set]
theorem wv_rep (n : Nat) : (wv (List.replicate n 0)).toArray = rep n (.int .u32 0) := by simp [wv, rep]
end Go.Proofs.Ytcldipbboidjbaa
