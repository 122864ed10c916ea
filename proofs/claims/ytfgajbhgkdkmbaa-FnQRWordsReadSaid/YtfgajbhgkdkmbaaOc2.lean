/-
  PLAIN: the count of 18 bits.
-/
import Derived.Test.YtfgajbhgkdkmbaaOc
namespace Go.Proofs.Ytfgajbhgkdkmbaa
open Go.RowKit

theorem oc_0 : allB okOc 15 0 = true := oc_all
theorem oc_1 : allB okOc 15 1 = true := by decide +kernel
theorem oc_2 : allB okOc 15 2 = true := by decide +kernel
theorem oc_3 : allB okOc 15 3 = true := by decide +kernel
theorem oc_4 : allB okOc 15 4 = true := by decide +kernel
theorem oc_5 : allB okOc 15 5 = true := by decide +kernel
theorem oc_6 : allB okOc 15 6 = true := by decide +kernel
theorem oc_7 : allB okOc 15 7 = true := by decide +kernel
theorem oc18 (x : Nat) (h : x < 262144) : oc x = pc x := by
  have hk : x / 32768 = 0 ∨ x / 32768 = 1 ∨ x / 32768 = 2 ∨ x / 32768 = 3 ∨ x / 32768 = 4 ∨ x / 32768 = 5 ∨ x / 32768 = 6 ∨ x / 32768 = 7 := by omega
  rcases hk with hk | hk | hk | hk | hk | hk | hk | hk
  · exact oc_of (allB_spec _ 15 0 x oc_0 (by omega) (by omega))
  · exact oc_of (allB_spec _ 15 1 x oc_1 (by omega) (by omega))
  · exact oc_of (allB_spec _ 15 2 x oc_2 (by omega) (by omega))
  · exact oc_of (allB_spec _ 15 3 x oc_3 (by omega) (by omega))
  · exact oc_of (allB_spec _ 15 4 x oc_4 (by omega) (by omega))
  · exact oc_of (allB_spec _ 15 5 x oc_5 (by omega) (by omega))
  · exact oc_of (allB_spec _ 15 6 x oc_6 (by omega) (by omega))
  · exact oc_of (allB_spec _ 15 7 x oc_7 (by omega) (by omega))
/-- The count, bit by bit. -/
def pcb : Nat → Nat → Nat
  | 0, _ => 0
  | k + 1, x => x % 2 + pcb k (x / 2)
theorem pc_pcb (x : Nat) : pc x = pcb 18 x := by
  show (x % 2 + (x / 2 % 2 + x / 4 % 2)) + ((x / 8 % 2 + (x / 8 / 2 % 2 + x / 8 / 4 % 2)) + ((x / 64 % 2 + (x / 64 / 2 % 2 + x / 64 / 4 % 2)) + ((x / 512 % 2 + (x / 512 / 2 % 2 + x / 512 / 4 % 2)) + ((x / 4096 % 2 + (x / 4096 / 2 % 2 + x / 4096 / 4 % 2)) + (x / 32768 % 2 + (x / 32768 / 2 % 2 + x / 32768 / 4 % 2)))))) = _
  simp only [pcb, Nat.div_div_eq_div_mul]
  simp only [Nat.reduceMul]
  omega
theorem and_pred_odd (y : Nat) : (2 * y + 1) &&& (2 * y + 1 - 1) = 2 * y := by
  apply Nat.eq_of_testBit_eq
  intro i
  rw [Nat.testBit_and, show 2 * y + 1 - 1 = 2 * y by omega]
  cases i with
  | zero => simp [Nat.testBit_zero]
  | succ i =>
    rw [Nat.testBit_succ, Nat.testBit_succ, show (2 * y + 1) / 2 = y by omega, show 2 * y / 2 = y by omega, Bool.and_self]
theorem and_pred_even (y : Nat) (h : 0 < y) : (2 * y) &&& (2 * y - 1) = 2 * (y &&& (y - 1)) := by
  apply Nat.eq_of_testBit_eq
  intro i
  rw [Nat.testBit_and]
  cases i with
  | zero => simp [Nat.testBit_zero]
  | succ i =>
    rw [Nat.testBit_succ, Nat.testBit_succ, Nat.testBit_succ, show (2 * y - 1) / 2 = y - 1 by omega, show 2 * y / 2 = y by omega, show 2 * (y &&& (y - 1)) / 2 = y &&& (y - 1) by omega, Nat.testBit_and]
theorem pcb_step (k : Nat) : ∀ x, x < 2 ^ k → x ≠ 0 → pcb k x = pcb k (x &&& (x - 1)) + 1 := by
  induction k with
  | zero => intro x hx h0; simp at hx; omega
  | succ k ih =>
    intro x hx h0
    have hx2 : x / 2 < 2 ^ k := by rw [Nat.pow_succ] at hx; omega
    unfold pcb
    rcases Nat.mod_two_eq_zero_or_one x with h | h
    · obtain ⟨y, rfl⟩ : ∃ y, x = 2 * y := ⟨x / 2, by omega⟩
      rw [and_pred_even y (by omega), show 2 * y / 2 = y by omega, show 2 * (y &&& (y - 1)) / 2 = y &&& (y - 1) by omega, show 2 * y % 2 = 0 by omega, show 2 * (y &&& (y - 1)) % 2 = 0 by omega]
      rw [ih y (by omega) (by omega)]; omega
    · obtain ⟨y, rfl⟩ : ∃ y, x = 2 * y + 1 := ⟨x / 2, by omega⟩
      rw [and_pred_odd y, show (2 * y + 1) / 2 = y by omega, show 2 * y / 2 = y by omega]; omega
theorem pc_step18 (x : Nat) (h : x < 262144) (h0 : x ≠ 0) : pc x = pc (x &&& (x - 1)) + 1 := by
  rw [pc_pcb, pc_pcb]; exact pcb_step 18 x h h0
theorem pcb_xor (k : Nat) : ∀ x y, pcb k (x ^^^ y) ≤ pcb k x + pcb k y := by
  induction k with
  | zero => intro x y; exact Nat.le_refl _
  | succ k ih =>
    intro x y
    unfold pcb
    have h1 := ih (x / 2) (y / 2)
    have h2 : (x ^^^ y) / 2 = x / 2 ^^^ y / 2 := by
      apply Nat.eq_of_testBit_eq
      intro i
      rw [Nat.testBit_xor, ← Nat.testBit_succ, ← Nat.testBit_succ, ← Nat.testBit_succ, Nat.testBit_xor]
    have h3 : (x ^^^ y) % 2 ≤ x % 2 + y % 2 := by
      have h4 : (x ^^^ y).testBit 0 = (x.testBit 0 ^^ y.testBit 0) := Nat.testBit_xor x y 0
      rw [Nat.testBit_zero, Nat.testBit_zero, Nat.testBit_zero] at h4
      rcases Nat.mod_two_eq_zero_or_one x with hx | hx <;> rcases Nat.mod_two_eq_zero_or_one y with hy | hy <;> rcases Nat.mod_two_eq_zero_or_one (x ^^^ y) with hz | hz <;> rw [hx, hy, hz] at h4 <;> rw [hx, hy, hz] <;> first | omega | (exfalso; revert h4; decide)
    rw [h2]; omega
theorem pc_xor (x y : Nat) : pc (x ^^^ y) ≤ pc x + pc y := by
  rw [pc_pcb, pc_pcb, pc_pcb]; exact pcb_xor 18 x y
/-- A distance is at most two others. -/
theorem pc_tri (a x y : Nat) : pc (x ^^^ y) ≤ pc (a ^^^ x) + pc (a ^^^ y) := by
  have h := pc_xor (a ^^^ x) (a ^^^ y)
  have e : (a ^^^ x) ^^^ (a ^^^ y) = x ^^^ y := by
    rw [Nat.xor_comm a x, Nat.xor_assoc, ← Nat.xor_assoc a a y, Nat.xor_self, Nat.zero_xor]
  rw [e] at h; exact h
end Go.Proofs.Ytfgajbhgkdkmbaa
