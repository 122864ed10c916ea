/-
  WALKS: bits.Reverse32.
-/
import Derived.Test.YtjhfebhefclenaaU32
namespace Go.Proofs.Ytjhfebhefclenaa
open Go.RowKit

def swp (S M y : Nat) : Nat := (y / S &&& M) ||| (y &&& M) * S
theorem swp_lt (S M y : Nat) (hy : y < 4294967296) (hM : M * S < 4294967296) : swp S M y < 4294967296 := by
  unfold swp
  have h1 : y / S &&& M ≤ y / S := Nat.and_le_left
  have h2 : y / S ≤ y := Nat.div_le_self _ _
  have h3 : (y &&& M) * S ≤ M * S := Nat.mul_le_mul_right S Nat.and_le_right
  exact Nat.or_lt_two_pow (n := 32) (by omega) (by omega)
theorem swp_eq (S M y : Nat) (hy : y < 4294967296) (hM : M * S < 4294967296) (hM0 : M < 4294967296) :
    bits .or .u32 (bits .and .u32 ((y : Int) / (S : Int)) (M : Int)) (bits .and .u32 (y : Int) (M : Int) * (S : Int) % 4294967296) = ((swp S M y : Nat) : Int) := by
  have h2 : y / S ≤ y := Nat.div_le_self _ _
  have e1 := u32_and (y / S) M (by omega) hM0
  have e2 := u32_and y M hy hM0
  rw [Int.natCast_ediv] at e1
  rw [e1, e2]
  have h3 : (y &&& M) * S ≤ M * S := Nat.mul_le_mul_right S Nat.and_le_right
  have e3 : ((y &&& M : Nat) : Int) * (S : Int) % 4294967296 = (((y &&& M) * S : Nat) : Int) := by
    rw [← Int.natCast_mul]; omega
  rw [e3]
  have h1 : y / S &&& M ≤ y / S := Nat.and_le_left
  exact u32_or _ _ (by omega) (by omega)
theorem swp_bit (s M y i : Nat) (hM : ∀ j, j < 32 → M.testBit j = decide (j % (2 * 2 ^ s) < 2 ^ s)) (hi : i < 32) :
    (swp (2 ^ (2 ^ s)) M y).testBit i = ((decide (i % (2 * 2 ^ s) < 2 ^ s) && y.testBit (2 ^ s + i)) || (decide (2 ^ s ≤ i) && (decide ((i - 2 ^ s) % (2 * 2 ^ s) < 2 ^ s) && y.testBit (i - 2 ^ s)))) := by
  unfold swp
  rw [Nat.testBit_or, Nat.testBit_and, Nat.testBit_div_two_pow, Nat.testBit_mul_two_pow, Nat.testBit_and, hM i hi, hM (i - 2 ^ s) (Nat.lt_of_le_of_lt (Nat.sub_le _ _) hi), Nat.add_comm i, Bool.and_comm, Bool.and_comm (y.testBit (i - 2 ^ s))]
/-- 32 bits, the other way round. -/
def rev32 (x : Nat) : Nat :=
  let y := swp 256 16711935 (swp 16 252645135 (swp 4 858993459 (swp 2 1431655765 x)))
  y / 65536 ||| y * 65536 % 4294967296
theorem m0 : ∀ j, j < 32 → Nat.testBit 1431655765 j = decide (j % (2 * 2 ^ 0) < 2 ^ 0) := by decide
theorem m1 : ∀ j, j < 32 → Nat.testBit 858993459 j = decide (j % (2 * 2 ^ 1) < 2 ^ 1) := by decide
theorem m2 : ∀ j, j < 32 → Nat.testBit 252645135 j = decide (j % (2 * 2 ^ 2) < 2 ^ 2) := by decide
theorem m3 : ∀ j, j < 32 → Nat.testBit 16711935 j = decide (j % (2 * 2 ^ 3) < 2 ^ 3) := by decide
theorem rev32_lt (x : Nat) (hx : x < 4294967296) : rev32 x < 4294967296 := by
  unfold rev32
  have h1 := swp_lt 2 1431655765 x hx (by decide)
  have h2 := swp_lt 4 858993459 _ h1 (by decide)
  have h3 := swp_lt 16 252645135 _ h2 (by decide)
  have h4 := swp_lt 256 16711935 _ h3 (by decide)
  exact Nat.or_lt_two_pow (n := 32) (by omega) (by omega)
def sg (S i : Nat) : Nat := if i % (2 * S) < S then i + S else i - S
theorem step0 (y i : Nat) (hi : i < 32) : (swp 2 1431655765 y).testBit i = y.testBit (sg 1 i) := by
  have h := swp_bit 0 1431655765 y i m0 hi
  simp only [Nat.pow_zero, Nat.pow_one, Nat.mul_one] at h
  rw [h]; unfold sg
  by_cases hc : i % (2 * 1) < 1
  · have h2 : ¬ (i - 1) % 2 < 1 ∨ ¬ 1 ≤ i := by omega
    rw [if_pos hc]
    rcases h2 with h2 | h2
    · simp [h2, show i % 2 < 1 by omega, Nat.add_comm]
    · simp [show ¬ 1 ≤ i from h2, show i % 2 < 1 by omega, Nat.add_comm]
  · rw [if_neg hc]
    simp [show ¬ i % 2 < 1 by omega, show 1 ≤ i by omega, show (i - 1) % 2 < 1 by omega]
theorem step1 (y i : Nat) (hi : i < 32) : (swp 4 858993459 y).testBit i = y.testBit (sg 2 i) := by
  have h := swp_bit 1 858993459 y i m1 hi
  rw [show (2 : Nat) ^ (2 ^ 1) = 4 by rfl, show (2 : Nat) ^ 1 = 2 by rfl] at h
  rw [h]; unfold sg
  by_cases hc : i % (2 * 2) < 2
  · have h2 : ¬ (i - 2) % (2 * 2) < 2 ∨ ¬ 2 ≤ i := by omega
    rw [if_pos hc, Nat.add_comm i]
    rcases h2 with h2 | h2
    · rw [decide_eq_true hc, decide_eq_false h2]; simp
    · rw [decide_eq_true hc, decide_eq_false h2]; simp
  · rw [if_neg hc, decide_eq_false hc, decide_eq_true (show 2 ≤ i by omega), decide_eq_true (show (i - 2) % (2 * 2) < 2 by omega)]; simp
theorem step2 (y i : Nat) (hi : i < 32) : (swp 16 252645135 y).testBit i = y.testBit (sg 4 i) := by
  have h := swp_bit 2 252645135 y i m2 hi
  rw [show (2 : Nat) ^ (2 ^ 2) = 16 by rfl, show (2 : Nat) ^ 2 = 4 by rfl] at h
  rw [h]; unfold sg
  by_cases hc : i % (2 * 4) < 4
  · have h2 : ¬ (i - 4) % (2 * 4) < 4 ∨ ¬ 4 ≤ i := by omega
    rw [if_pos hc, Nat.add_comm i]
    rcases h2 with h2 | h2
    · rw [decide_eq_true hc, decide_eq_false h2]; simp
    · rw [decide_eq_true hc, decide_eq_false h2]; simp
  · rw [if_neg hc, decide_eq_false hc, decide_eq_true (show 4 ≤ i by omega), decide_eq_true (show (i - 4) % (2 * 4) < 4 by omega)]; simp
theorem step3 (y i : Nat) (hi : i < 32) : (swp 256 16711935 y).testBit i = y.testBit (sg 8 i) := by
  have h := swp_bit 3 16711935 y i m3 hi
  rw [show (2 : Nat) ^ (2 ^ 3) = 256 by rfl, show (2 : Nat) ^ 3 = 8 by rfl] at h
  rw [h]; unfold sg
  by_cases hc : i % (2 * 8) < 8
  · have h2 : ¬ (i - 8) % (2 * 8) < 8 ∨ ¬ 8 ≤ i := by omega
    rw [if_pos hc, Nat.add_comm i]
    rcases h2 with h2 | h2
    · rw [decide_eq_true hc, decide_eq_false h2]; simp
    · rw [decide_eq_true hc, decide_eq_false h2]; simp
  · rw [if_neg hc, decide_eq_false hc, decide_eq_true (show 8 ≤ i by omega), decide_eq_true (show (i - 8) % (2 * 8) < 8 by omega)]; simp
theorem step4 (y i : Nat) (hy : y < 4294967296) (hi : i < 32) : (y / 65536 ||| y * 65536 % 4294967296).testBit i = y.testBit (sg 16 i) := by
  have e1 : (y / 65536).testBit i = y.testBit (16 + i) := by
    rw [show 65536 = 2 ^ 16 by rfl, Nat.testBit_div_two_pow, Nat.add_comm]
  have e2 : (y * 65536 % 4294967296).testBit i = (decide (16 ≤ i) && y.testBit (i - 16)) := by
    rw [show 4294967296 = 2 ^ 32 by rfl, Nat.testBit_mod_two_pow, show 65536 = 2 ^ 16 by rfl, Nat.testBit_mul_two_pow]
    simp [hi]
  rw [Nat.testBit_or, e1, e2]; unfold sg
  by_cases hc : i % (2 * 16) < 16
  · rw [if_pos hc, decide_eq_false (show ¬ 16 ≤ i by omega), Nat.add_comm i]; simp
  · have h0 : y.testBit (16 + i) = false := Nat.testBit_lt_two_pow (Nat.lt_of_lt_of_le hy (Nat.pow_le_pow_right (n := 2) (i := 32) (by decide) (by omega)))
    rw [if_neg hc, h0, decide_eq_true (show 16 ≤ i by omega)]; simp
theorem sg_all : ∀ i, i < 32 → sg 16 i < 32 ∧ sg 8 (sg 16 i) < 32 ∧ sg 4 (sg 8 (sg 16 i)) < 32 ∧ sg 2 (sg 4 (sg 8 (sg 16 i))) < 32 ∧ sg 1 (sg 2 (sg 4 (sg 8 (sg 16 i)))) = 31 - i := by decide
theorem rev32_bit (x i : Nat) (hx : x < 4294967296) (hi : i < 32) : (rev32 x).testBit i = x.testBit (31 - i) := by
  have h1 := swp_lt 2 1431655765 x hx (by decide)
  have h2 := swp_lt 4 858993459 _ h1 (by decide)
  have h3 := swp_lt 16 252645135 _ h2 (by decide)
  have h4 := swp_lt 256 16711935 _ h3 (by decide)
  obtain ⟨a1, a2, a3, a4, a5⟩ := sg_all i hi
  unfold rev32
  rw [step4 _ i h4 hi, step3 _ _ a1, step2 _ _ a2, step1 _ _ a3, step0 _ _ a4, a5]

theorem revBytes_any (x : Nat) (w : World) (hx : x < 4294967296) : Calls Try.prog 31 #[.int .u32 x] w fun e w' => e = .returned (.int .u32 ((swp 256 16711935 x / 65536 ||| swp 256 16711935 x * 65536 % 4294967296 : Nat) : Int)) ∧ w' = w := by
  have e1 : bits .or .u32 (bits .and .u32 ((x : Int) / 256) 16711935) (bits .and .u32 (x : Int) 16711935 * 256 % 4294967296) = ((swp 256 16711935 x : Nat) : Int) := swp_eq 256 16711935 x hx (by decide) (by decide)
  have h1 := swp_lt 256 16711935 x hx (by decide)
  generalize swp 256 16711935 x = y at *
  have e2 : bits .or .u32 ((y : Int) / 65536) ((y : Int) * 65536 % 4294967296) = ((y / 65536 ||| y * 65536 % 4294967296 : Nat) : Int) := by
    have h := u32_or (y / 65536) (y * 65536 % 4294967296) (by omega) (by omega)
    rw [← h]; congr 1
  generalize (y / 65536 ||| y * 65536 % 4294967296) = z at *
  go_enter Try.func31, Try.ntmps31
  go_wp2
  go_ret
  exact ⟨rfl, rfl⟩
theorem reverse_any (x : Nat) (w : World) (hx : x < 4294967296) : Calls Try.prog 28 #[.int .u32 x] w fun e w' => e = .returned (.int .u32 (rev32 x : Nat)) ∧ w' = w := by
  have e1 : bits .or .u32 (bits .and .u32 ((x : Int) / 2) 1431655765) (bits .and .u32 (x : Int) 1431655765 * 2 % 4294967296) = ((swp 2 1431655765 x : Nat) : Int) := swp_eq 2 1431655765 x hx (by decide) (by decide)
  have h1 := swp_lt 2 1431655765 x hx (by decide)
  unfold rev32
  generalize swp 2 1431655765 x = y1 at *
  have e2 : bits .or .u32 (bits .and .u32 ((y1 : Int) / 4) 858993459) (bits .and .u32 (y1 : Int) 858993459 * 4 % 4294967296) = ((swp 4 858993459 y1 : Nat) : Int) := swp_eq 4 858993459 y1 h1 (by decide) (by decide)
  have h2 := swp_lt 4 858993459 y1 h1 (by decide)
  generalize swp 4 858993459 y1 = y2 at *
  have e3 : bits .or .u32 (bits .and .u32 ((y2 : Int) / 16) 252645135) (bits .and .u32 (y2 : Int) 252645135 * 16 % 4294967296) = ((swp 16 252645135 y2 : Nat) : Int) := swp_eq 16 252645135 y2 h2 (by decide) (by decide)
  have h3 := swp_lt 16 252645135 y2 h2 (by decide)
  generalize swp 16 252645135 y2 = y3 at *
  go_enter Try.func28, Try.ntmps28
  go_wp2_with fail
  refine (revBytes_any y3 _ h3).mono ?_
  rintro e w ⟨rfl, rfl⟩
  go_wp2
  go_ret
  exact ⟨rfl, rfl⟩
end Go.Proofs.Ytjhfebhefclenaa
