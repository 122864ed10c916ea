/-
  PLAIN: where finders stand in a row, how many there are.
-/
import Derived.Test.YtibnfgmhnmkfeaaPf7
namespace Go.Proofs.Ytibnfgmhnmkfeaa
open Go.RowKit

/-- A finder begins at c, with four light modules ahead of it or behind it. -/
def hitB (g : Nat → Bool) (n : Nat) (out : Bool) (c : Nat) : Bool :=
  decide (c + 6 < n) && (g c && (!g (c + 1) && (g (c + 2) && (g (c + 3) && (g (c + 4) && (!g (c + 5) && (g (c + 6) && (lightB g n ((c : Int) - 4) out || lightB g n ((c : Int) + 7) out))))))))
/-- Of the modules ahead of k in a row: how many begin a finder. -/
def hitsR (g : Nat → Bool) (n : Nat) (out : Bool) : Nat → Nat
  | 0 => 0
  | k + 1 => hitsR g n out k + (hitB g n out k).toNat
/-- In the rows ahead of k. -/
def hitsT (f : Nat → Nat → Bool) (n : Nat) (out : Bool) : Nat → Nat
  | 0 => 0
  | k + 1 => hitsT f n out k + hitsR (fun j => f j k) n out n
/-- In row y, ahead of column k: finders that begin there in the row or in the column. -/
def bothR (f : Nat → Nat → Bool) (n y : Nat) : Nat → Nat
  | 0 => 0
  | k + 1 => bothR f n y k + (hitB (fun j => f j y) n true k).toNat + (hitB (fun j => f k j) n true y).toNat
def bothT (f : Nat → Nat → Bool) (n : Nat) : Nat → Nat
  | 0 => 0
  | k + 1 => bothT f n k + bothR f n k n
theorem tn_le (b : Bool) : b.toNat ≤ 1 := by cases b <;> decide
theorem bothR_le (f : Nat → Nat → Bool) (n y k : Nat) : bothR f n y k ≤ 2 * k := by
  induction k with
  | zero => exact Nat.le_refl _
  | succ k ih =>
    have h1 := tn_le (hitB (fun j => f j y) n true k)
    have h2 := tn_le (hitB (fun j => f k j) n true y)
    unfold bothR; omega
theorem bothT_le (f : Nat → Nat → Bool) (n k : Nat) : bothT f n k ≤ 2 * n * k := by
  induction k with
  | zero => exact Nat.zero_le _
  | succ k ih =>
    have h1 := bothR_le f n k n
    unfold bothT
    rw [Nat.mul_succ]; omega
theorem hitsR_le (g : Nat → Bool) (n : Nat) (out : Bool) (k : Nat) : hitsR g n out k ≤ k := by
  induction k with
  | zero => exact Nat.le_refl _
  | succ k ih =>
    have h1 := tn_le (hitB g n out k)
    unfold hitsR; omega
theorem hitsT_le (f : Nat → Nat → Bool) (n : Nat) (out : Bool) (k : Nat) : hitsT f n out k ≤ n * k := by
  induction k with
  | zero => exact Nat.zero_le _
  | succ k ih =>
    have h1 := hitsR_le (fun j => f j k) n out n
    unfold hitsT
    rw [Nat.mul_succ]; omega
/-- Sums over a square, by rows and by columns. -/
def sumN (s : Nat → Nat) : Nat → Nat
  | 0 => 0
  | k + 1 => sumN s k + s k
theorem sumN_add (s t : Nat → Nat) (k : Nat) : sumN (fun i => s i + t i) k = sumN s k + sumN t k := by
  induction k with
  | zero => rfl
  | succ k ih => unfold sumN; rw [ih]; omega
theorem sumN_zero (k : Nat) : sumN (fun _ => 0) k = 0 := by
  induction k with
  | zero => rfl
  | succ k ih => unfold sumN; rw [ih]
theorem sumN_swap (s : Nat → Nat → Nat) (n m : Nat) : sumN (fun i => sumN (s i) n) m = sumN (fun j => sumN (fun i => s i j) m) n := by
  induction m with
  | zero => exact (sumN_zero n).symm
  | succ m ih => simp only [sumN, ih, sumN_add]
theorem bothR_sum (f : Nat → Nat → Bool) (n y k : Nat) : bothR f n y k = sumN (fun x => (hitB (fun j => f j y) n true x).toNat) k + sumN (fun x => (hitB (fun j => f x j) n true y).toNat) k := by
  induction k with
  | zero => rfl
  | succ k ih => unfold bothR sumN; rw [ih]; omega
theorem bothT_sum (f : Nat → Nat → Bool) (n k : Nat) : bothT f n k = sumN (fun y => bothR f n y n) k := by
  induction k with
  | zero => rfl
  | succ k ih => unfold bothT sumN; rw [ih]
theorem hitsR_sum (g : Nat → Bool) (n : Nat) (out : Bool) (k : Nat) : hitsR g n out k = sumN (fun x => (hitB g n out x).toNat) k := by
  induction k with
  | zero => rfl
  | succ k ih => unfold hitsR sumN; rw [ih]
theorem hitsT_sum (f : Nat → Nat → Bool) (n : Nat) (out : Bool) (k : Nat) : hitsT f n out k = sumN (fun y => hitsR (fun j => f j y) n out n) k := by
  induction k with
  | zero => rfl
  | succ k ih => unfold hitsT sumN; rw [ih]
/-- What the program finds is what stands in rows, and in rows of the square turned. -/
theorem both_eq (f : Nat → Nat → Bool) (n : Nat) : bothT f n n = hitsT f n true n + hitsT (fun c r => f r c) n true n := by
  rw [bothT_sum, hitsT_sum, hitsT_sum]
  have e1 : (fun y => bothR f n y n) = fun y => sumN (fun x => (hitB (fun j => f j y) n true x).toNat) n + sumN (fun x => (hitB (fun j => f x j) n true y).toNat) n := funext fun y => bothR_sum f n y n
  rw [e1, sumN_add]
  congr 1
  · congr 1; funext y; exact (hitsR_sum _ _ _ _).symm
  · rw [sumN_swap]
    congr 1; funext x; exact (hitsR_sum _ _ _ _).symm
theorem lit_mono (g : Nat → Bool) (n : Nat) (i : Int) (h : litB g n false i = true) : litB g n true i = true := by
  unfold litB at *
  split at h
  · rename_i hc; rw [if_pos hc]; exact h
  · cases h
theorem light_mono (g : Nat → Bool) (n : Nat) (a : Int) (h : lightB g n a false = true) : lightB g n a true = true :=
  (lightB_iff _ _ _ _).2 fun i h1 h2 => lit_mono g n i ((lightB_iff _ _ _ _).1 h i h1 h2)
theorem hit_mono (g : Nat → Bool) (n c : Nat) : (hitB g n false c).toNat ≤ (hitB g n true c).toNat := by
  cases h : hitB g n false c
  · exact Nat.zero_le _
  · have : hitB g n true c = true := by
      unfold hitB at *
      simp only [Bool.and_eq_true, Bool.or_eq_true] at *
      obtain ⟨h0, h1, h2, h3, h4, h5, h6, h7, h8⟩ := h
      exact ⟨h0, h1, h2, h3, h4, h5, h6, h7, h8.imp (light_mono _ _ _) (light_mono _ _ _)⟩
    rw [this]; exact Nat.le_refl _
theorem hitsR_mono (g : Nat → Bool) (n k : Nat) : hitsR g n false k ≤ hitsR g n true k := by
  induction k with
  | zero => exact Nat.le_refl _
  | succ k ih => have := hit_mono g n k; unfold hitsR; omega
theorem hitsT_mono (f : Nat → Nat → Bool) (n k : Nat) : hitsT f n false k ≤ hitsT f n true k := by
  induction k with
  | zero => exact Nat.le_refl _
  | succ k ih => have := hitsR_mono (fun j => f j k) n n; unfold hitsT; omega
end Go.Proofs.Ytibnfgmhnmkfeaa
