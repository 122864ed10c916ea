/-
  PLAIN: the bits of the layers, in the order of the words.
-/
import Derived.Test.YtgihmnecllanfaaAz1
import Derived.Test.YtgihmnecllanfaaRo0
namespace Go.Proofs.Ytgihmnecllanfaa
open Go.RowKit

def longN (c : Bool) (L i : Nat) : Nat := 4 * (L - i) + (if c then 9 else 12)
def nearN (c : Bool) (L i j : Nat) : Nat := placeN c L (2 * i + j % 2)
def farN (c : Bool) (L i j : Nat) : Nat := placeN c L (sideN c L - 1 - 2 * i - j % 2)
def alongN (c : Bool) (L i j : Nat) : Nat := placeN c L (2 * i + j / 2)
def backN (c : Bool) (L i j : Nat) : Nat := placeN c L (sideN c L - 1 - 2 * i - j / 2)
/-- Bit j of side k of layer i. -/
def bitZ (c : Bool) (L : Nat) (f : Nat → Nat → Bool) (i k j : Nat) : Bool :=
  match k with
  | 0 => f (nearN c L i j) (alongN c L i j)
  | 1 => f (alongN c L i j) (farN c L i j)
  | 2 => f (farN c L i j) (backN c L i j)
  | _ => f (backN c L i j) (nearN c L i j)
def sideL (c : Bool) (L : Nat) (f : Nat → Nat → Bool) (i k : Nat) : List Bool := (List.range (2 * longN c L i)).map (bitZ c L f i k)
def layU (c : Bool) (L : Nat) (f : Nat → Nat → Bool) (i k : Nat) : List Bool := (List.range k).flatMap (sideL c L f i)
def takU (c : Bool) (L : Nat) (f : Nat → Nat → Bool) (n : Nat) : List Bool := (List.range n).flatMap fun i => layU c L f i 4
section
variable (c : Bool) (L : Nat) (f : Nat → Nat → Bool)
theorem longN_le (i : Nat) (hL : L ≤ 32) : longN c L i ≤ 140 := by unfold longN; split <;> omega
theorem long_side (i : Nat) (hi : i < L) : longN c L i + 2 * i + 2 * i + 2 = sideN c L := by
  cases c
  · show 4 * (L - i) + 12 + 2 * i + 2 * i + 2 = 14 + 4 * L
    omega
  · show 4 * (L - i) + 9 + 2 * i + 2 * i + 2 = 11 + 4 * L
    omega
theorem sideL_len (i k : Nat) : (sideL c L f i k).length = 2 * longN c L i := by simp [sideL]
theorem layU_succ (i k : Nat) : layU c L f i (k + 1) = layU c L f i k ++ sideL c L f i k := by simp [layU, List.range_succ]
theorem layU_len (i k : Nat) : (layU c L f i k).length = k * (2 * longN c L i) := by
  induction k with
  | zero => simp [layU]
  | succ k ih => rw [layU_succ, List.length_append, ih, sideL_len, Nat.add_mul, Nat.one_mul]
theorem takU_succ (n : Nat) : takU c L f (n + 1) = takU c L f n ++ layU c L f n 4 := by simp [takU, List.range_succ]
theorem takU_len_le (n : Nat) (hL : L ≤ 32) : (takU c L f n).length ≤ 1120 * n := by
  induction n with
  | zero => simp [takU]
  | succ n ih =>
    have h := longN_le c L n hL
    rw [takU_succ, List.length_append, layU_len]; omega
theorem takU_len_f (g : Nat → Nat → Bool) (n : Nat) : (takU c L f n).length = (takU c L g n).length := by
  induction n with
  | zero => simp [takU]
  | succ n ih => rw [takU_succ, takU_succ, List.length_append, List.length_append, layU_len, layU_len, ih]
/-- How many bits the first n layers have. -/
def offN (n : Nat) : Nat := (takU c L (fun _ _ => false) n).length
theorem takU_len (n : Nat) : (takU c L f n).length = offN c L n := takU_len_f c L f _ n
theorem offN_succ (n : Nat) : offN c L (n + 1) = offN c L n + 8 * longN c L n := by
  unfold offN; rw [takU_succ, List.length_append, layU_len]; omega
theorem offN_le (n : Nat) (hL : L ≤ 32) : offN c L n ≤ 1120 * n := takU_len_le c L _ n hL
theorem offN_mono (n m : Nat) (h : n ≤ m) : offN c L n ≤ offN c L m := by
  induction m with
  | zero => rw [show n = 0 by omega]; exact Nat.le_refl _
  | succ m ih =>
    rcases Nat.lt_or_ge n (m + 1) with h1 | h1
    · have := ih (by omega); rw [offN_succ]; omega
    · rw [show n = m + 1 by omega]; exact Nat.le_refl _
theorem offN_all : offN c L L = (if c then 88 + 16 * L else 112 + 16 * L) * L := by
  have key : ∀ n, n ≤ L → offN c L n + (if c then 88 + 16 * (L - n) else 112 + 16 * (L - n)) * (L - n) = (if c then 88 + 16 * L else 112 + 16 * L) * L := by
    intro n
    induction n with
    | zero => intro _; simp [offN, takU]
    | succ n ih =>
      intro hn
      rw [← ih (by omega), offN_succ]
      obtain ⟨m, hm⟩ : ∃ m, L - n = m + 1 := ⟨L - n - 1, by omega⟩
      have hm2 : L - (n + 1) = m := by omega
      have hl : longN c L n = 4 * (m + 1) + (if c then 9 else 12) := by unfold longN; rw [hm]
      rw [hm, hm2, hl]
      cases c
      · simp only [Bool.false_eq_true, if_false]
        have e1 : (112 + 16 * (m + 1)) * (m + 1) = 112 * m + 112 + 16 * (m * m) + 32 * m + 16 := by
          rw [Nat.add_mul, Nat.mul_assoc, Nat.add_mul m 1 (m + 1), Nat.mul_add m m 1]; omega
        have e2 : (112 + 16 * m) * m = 112 * m + 16 * (m * m) := by rw [Nat.add_mul, Nat.mul_assoc]
        rw [e1, e2]; omega
      · simp only [if_true]
        have e1 : (88 + 16 * (m + 1)) * (m + 1) = 88 * m + 88 + 16 * (m * m) + 32 * m + 16 := by
          rw [Nat.add_mul, Nat.mul_assoc, Nat.add_mul m 1 (m + 1), Nat.mul_add m m 1]; omega
        have e2 : (88 + 16 * m) * m = 88 * m + 16 * (m * m) := by rw [Nat.add_mul, Nat.mul_assoc]
        rw [e1, e2]; omega
  have := key L (Nat.le_refl _)
  simpa using this
/-- The bit at its place. -/
theorem takU_at (i k j n : Nat) (hi : i < n) (hk : k < 4) (hj : j < 2 * longN c L i) : (takU c L f n)[offN c L i + k * (2 * longN c L i) + j]? = some (bitZ c L f i k j) := by
  induction n with
  | zero => omega
  | succ n ih =>
    rw [takU_succ]
    rcases Nat.lt_or_ge i n with h | h
    · have h1 := ih h
      have h2 := (List.getElem?_eq_some_iff.1 h1).1
      rw [List.getElem?_append_left h2]; exact h1
    · obtain rfl : i = n := by omega
      rw [List.getElem?_append_right (by rw [takU_len]; omega), takU_len, show offN c L i + k * (2 * longN c L i) + j - offN c L i = k * (2 * longN c L i) + j by omega]
      have key : ∀ m, k < m → (layU c L f i m)[k * (2 * longN c L i) + j]? = some (bitZ c L f i k j) := by
        intro m
        induction m with
        | zero => intro h; omega
        | succ m ihm =>
          intro hm
          rw [layU_succ]
          rcases Nat.lt_or_ge k m with h | h
          · have h1 := ihm h
            have h2 := (List.getElem?_eq_some_iff.1 h1).1
            rw [List.getElem?_append_left h2]; exact h1
          · obtain rfl : k = m := by omega
            rw [List.getElem?_append_right (by rw [layU_len]; omega), layU_len, Nat.add_sub_cancel_left]
            simp [sideL, hj]
      exact key 4 hk
/-- Each place is a bit's. -/
theorem place_of (n p : Nat) (hp : p < offN c L n) : ∃ i k j, i < n ∧ k < 4 ∧ j < 2 * longN c L i ∧ p = offN c L i + k * (2 * longN c L i) + j := by
  induction n with
  | zero => exact absurd hp (Nat.not_lt_zero _)
  | succ n ih =>
    rcases Nat.lt_or_ge p (offN c L n) with h | h
    · obtain ⟨i, k, j, h1, h2⟩ := ih h
      exact ⟨i, k, j, by omega, h2⟩
    · rw [offN_succ] at hp
      have hl0 : 0 < 2 * longN c L n := by unfold longN; split <;> omega
      generalize hl : 2 * longN c L n = l at *
      refine ⟨n, (p - offN c L n) / l, (p - offN c L n) % l, by omega, ?_, ?_, ?_⟩
      · rw [Nat.div_lt_iff_lt_mul hl0]; omega
      · rw [hl]; exact Nat.mod_lt _ hl0
      · rw [hl]
        have := Nat.div_add_mod (p - offN c L n) l
        rw [Nat.mul_comm] at this
        omega
theorem near_lt (i j : Nat) (hi : i < L) (hj : j < 2 * longN c L i) : nearN c L i j < wholeN c L ∧ farN c L i j < wholeN c L ∧ alongN c L i j < wholeN c L ∧ backN c L i j < wholeN c L := by
  have h := long_side c L i hi
  have h1 : 8 ≤ longN c L i := by unfold longN; split <;> omega
  exact ⟨placeN_lt c L _ (by omega), placeN_lt c L _ (by omega), placeN_lt c L _ (by omega), placeN_lt c L _ (by omega)⟩
end
end Go.Proofs.Ytgihmnecllanfaa
