/-
  WALK: Decoder.correctBits of words that are hurt. WALK: Decoder.correctBits of words that are hurt: words of 8 bits. WALK: Decoder.correctBits of words that are hurt: words of 10 bits. WALK: Decoder.correctBits of words that are hurt: words of 12 bits.
-/
import Derived.Test.YtopfdmmimgnciaaGreatDoorV15
import Derived.Test.YtopfdmmimgnciaaGreatDoorV23
namespace Go.Proofs.YtopfdmmimgnciaaGreatDoor
open Go.RowKit

theorem and_bitZ (x k : Nat) : (((x &&& 2 ^ k : Nat) : Int) != 0) = decide (x / 2 ^ k % 2 = 1) := by
  have h : (x &&& 2 ^ k = 0) ↔ ¬ (x / 2 ^ k % 2 = 1) := by
    rw [show (x / 2 ^ k % 2 = 1) ↔ x.testBit k = true by rw [Nat.testBit_eq_decide_div_mod_eq]; simp]
    constructor
    · intro h hb
      have := congrArg (fun n => n.testBit k) h
      simp [Nat.testBit_and, hb] at this
    · intro h
      apply Nat.eq_of_testBit_eq
      intro i
      rw [Nat.testBit_and, Nat.testBit_two_pow]
      by_cases hi : k = i
      · subst hi; simp at h; simp [h]
      · simp [hi]
  rw [Bool.eq_iff_iff]
  simp only [bne_iff_ne, ne_eq, decide_eq_true_eq]
  constructor
  · intro h1
    rcases Decidable.em (x / 2 ^ k % 2 = 1) with h2 | h2
    · exact h2
    · exact absurd (by rw [h.2 h2]; rfl) h1
  · intro h1 h2
    exact h.1 (by omega) h1
theorem and_pow (x q : Nat) (hx : x < 4096) (hq : q ≤ 11) : (bits .and .i64 (x : Int) (wrap64 ((2 : Int) ^ q)) != 0) = x.testBit q := by
  have hw : wrap64 ((2 : Int) ^ q) = (2 : Int) ^ q := by
    have hc : q = 0 ∨ q = 1 ∨ q = 2 ∨ q = 3 ∨ q = 4 ∨ q = 5 ∨ q = 6 ∨ q = 7 ∨ q = 8 ∨ q = 9 ∨ q = 10 ∨ q = 11 := by omega
    rcases hc with rfl | rfl | rfl | rfl | rfl | rfl | rfl | rfl | rfl | rfl | rfl | rfl <;> (unfold wrap64; decide)
  rw [hw]
  clear hw
  have h2 : 2 ^ q ≤ 2 ^ 11 := Nat.pow_le_pow_right (by decide) hq
  have e := i64_and x (2 ^ q) (by omega) (by omega)
  have e2 : ((2 ^ q : Nat) : Int) = (2 : Int) ^ q := by simp
  rw [e2] at e
  rw [e, and_bitZ, Nat.testBit_eq_decide_div_mod_eq]
end Go.Proofs.YtopfdmmimgnciaaGreatDoor
namespace Go.Proofs.YtopfdmmimgnciaaGreatDoor
open Go.RowKit

end Go.Proofs.YtopfdmmimgnciaaGreatDoor
namespace Go.Proofs.YtopfdmmimgnciaaGreatDoor
open Go.RowKit

end Go.Proofs.YtopfdmmimgnciaaGreatDoor
namespace Go.Proofs.YtopfdmmimgnciaaGreatDoor
open Go.RowKit

end Go.Proofs.YtopfdmmimgnciaaGreatDoor
