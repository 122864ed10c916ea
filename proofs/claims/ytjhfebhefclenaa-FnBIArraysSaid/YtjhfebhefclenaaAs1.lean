/-
  PLAIN: what steps make of bits, and which steps can be taken.
-/
import Derived.Test.YtjhfebhefclenaaSta
namespace Go.Proofs.Ytjhfebhefclenaa
open Go.RowKit

/-- The size behind a step. -/
def sizeS (n : Nat) (s : Step) : Nat :=
  if s.op = 5 then n + 1 else if s.op = 6 then (if 0 ≤ s.b ∧ s.b ≤ 32 then n + s.b.toNat else n) else if s.op = 7 then n + s.bits.length else n
/-- A step that bits of a size can be asked to take. -/
structure OkS (n : Nat) (s : Step) : Prop where
  op : 1 ≤ s.op ∧ s.op ≤ 9
  place : s.op = 1 ∨ s.op = 2 → 0 ≤ s.a ∧ s.a < n
  some_ : s.op = 9 → 1 ≤ n
  num : s.op = 6 → 0 ≤ s.a ∧ s.a < 2147483648
  short : s.op = 7 → s.bits.length ≤ 70
  fit : s.bits.length ≤ 2147483647
theorem sizeS_le (n : Nat) (s : Step) (h : OkS n s) : sizeS n s ≤ n + 70 := by
  unfold sizeS
  split
  · omega
  · split
    · split <;> omega
    · split
      · rename_i h7; have := h.short h7; omega
      · omega
/-- The size behind the first k steps. -/
def sizeK (n : Nat) (st : List Step) : Nat → Nat
  | 0 => n
  | k + 1 => match st[k]? with
    | some s => sizeS (sizeK n st k) s
    | none => sizeK n st k
/-- Each step can be taken where it stands. -/
def OkL (n : Nat) (st : List Step) : Prop := ∀ (i : Nat) (s : Step), st[i]? = some s → OkS (sizeK n st i) s
theorem sizeK_app (n : Nat) (st : List Step) (s : Step) (k : Nat) (h : k ≤ st.length) : sizeK n (st ++ [s]) k = sizeK n st k := by
  induction k with
  | zero => rfl
  | succ k ih =>
    unfold sizeK
    rw [ih (by omega), List.getElem?_append_left (by omega)]
theorem sizeK_succ (n : Nat) (st : List Step) (k : Nat) (s : Step) (h : st[k]? = some s) : sizeK n st (k + 1) = sizeS (sizeK n st k) s := by
  show (match st[k]? with | some s => sizeS (sizeK n st k) s | none => sizeK n st k) = _
  rw [h]
theorem sizeK_last (n : Nat) (st : List Step) (s : Step) : sizeK n (st ++ [s]) (st ++ [s]).length = sizeS (sizeK n st st.length) s := by
  have h : (st ++ [s])[st.length]? = some s := by rw [List.getElem?_append_right (Nat.le_refl _), Nat.sub_self]; rfl
  have := sizeK_succ n (st ++ [s]) st.length s h
  rw [List.length_append, ← sizeK_app n st s st.length (Nat.le_refl _)]
  exact this
theorem OkL.nil_ (n : Nat) : OkL n [] := fun i s h => by simp at h
theorem OkL.app {n : Nat} {st : List Step} {s : Step} (h : OkL n st) (hs : OkS (sizeK n st st.length) s) : OkL n (st ++ [s]) := by
  intro i s' hi
  by_cases hlt : i < st.length
  · rw [List.getElem?_append_left hlt] at hi
    rw [sizeK_app _ _ _ _ (by omega)]
    exact h i s' hi
  · have hi2 : i < (st ++ [s]).length := (List.getElem?_eq_some_iff.1 hi).1
    have hie : i = st.length := by simp at hi2; omega
    subst hie
    rw [List.getElem?_append_right (Nat.le_refl _), Nat.sub_self] at hi
    simp at hi
    subst hi
    rw [sizeK_app _ _ _ _ (Nat.le_refl _)]
    exact hs
theorem sizeK_le (n : Nat) (st : List Step) (h : OkL n st) (k : Nat) : sizeK n st k ≤ n + 70 * k := by
  induction k with
  | zero => exact Nat.le_refl _
  | succ k ih =>
    unfold sizeK
    cases hs : st[k]? with
    | none => simp only; omega
    | some s => have := sizeS_le _ s (h k s hs); simp only; omega
/-- What a step makes of bits, and whether it was taken. -/
def resS (l : List Bool) (s : Step) : List Bool × Bool :=
  if s.op = 1 then (l.set s.a.toNat true, true) else
  if s.op = 2 then (l.set s.a.toNat (!l.getD s.a.toNat false), true) else
  if s.op = 3 then (if 0 ≤ s.a ∧ s.a ≤ s.b ∧ s.b ≤ l.length then (rangeL l s.a.toNat s.b.toNat, true) else (l, false)) else
  if s.op = 4 then (List.replicate l.length false, true) else
  if s.op = 5 then (l ++ [!(s.a == 0)], true) else
  if s.op = 6 then (if 0 ≤ s.b ∧ s.b ≤ 32 then (l ++ topB s.a.toNat s.b.toNat s.b.toNat, true) else (l, false)) else
  if s.op = 7 then (l ++ s.bits, true) else
  if s.op = 8 then (if s.bits.length = l.length then (xorL l s.bits, true) else (l, false)) else
  (l.reverse, true)
theorem resS_len (l : List Bool) (s : Step) : (resS l s).1.length = sizeS l.length s := by
  unfold resS sizeS
  by_cases h1 : s.op = 1
  · rw [if_pos h1, if_neg (by omega), if_neg (by omega), if_neg (by omega)]; simp
  rw [if_neg h1]
  by_cases h2 : s.op = 2
  · rw [if_pos h2, if_neg (by omega), if_neg (by omega), if_neg (by omega)]; simp
  rw [if_neg h2]
  by_cases h3 : s.op = 3
  · have e : (if s.op = 5 then l.length + 1 else if s.op = 6 then (if 0 ≤ s.b ∧ s.b ≤ 32 then l.length + s.b.toNat else l.length) else if s.op = 7 then l.length + s.bits.length else l.length) = l.length := by
      rw [if_neg (by omega), if_neg (by omega), if_neg (by omega)]
    rw [if_pos h3, e]
    split
    · exact rangeL_len _ _ _
    · rfl
  rw [if_neg h3]
  by_cases h4 : s.op = 4
  · rw [if_pos h4, if_neg (by omega), if_neg (by omega), if_neg (by omega)]; simp
  rw [if_neg h4]
  by_cases h5 : s.op = 5
  · rw [if_pos h5, if_pos h5]; simp
  rw [if_neg h5, if_neg h5]
  by_cases h6 : s.op = 6
  · rw [if_pos h6, if_pos h6]
    split
    · simp [topB_len]
    · rfl
  rw [if_neg h6, if_neg h6]
  by_cases h7 : s.op = 7
  · rw [if_pos h7, if_pos h7]; simp
  rw [if_neg h7, if_neg h7]
  by_cases h8 : s.op = 8
  · rw [if_pos h8]
    split
    · exact xorL_len _ _
    · rfl
  rw [if_neg h8]; simp
/-- The bits behind the first k steps, and which of these were taken. -/
def bitsK (l : List Bool) (st : List Step) : Nat → List Bool
  | 0 => l
  | k + 1 => match st[k]? with
    | some s => (resS (bitsK l st k) s).1
    | none => bitsK l st k
def tookK (l : List Bool) (st : List Step) : Nat → List Bool
  | 0 => []
  | k + 1 => match st[k]? with
    | some s => tookK l st k ++ [(resS (bitsK l st k) s).2]
    | none => tookK l st k
theorem bitsK_succ (l : List Bool) (st : List Step) (k : Nat) (s : Step) (h : st[k]? = some s) : bitsK l st (k + 1) = (resS (bitsK l st k) s).1 := by
  show (match st[k]? with | some s => (resS (bitsK l st k) s).1 | none => bitsK l st k) = _
  rw [h]
theorem tookK_succ (l : List Bool) (st : List Step) (k : Nat) (s : Step) (h : st[k]? = some s) : tookK l st (k + 1) = tookK l st k ++ [(resS (bitsK l st k) s).2] := by
  show (match st[k]? with | some s => tookK l st k ++ [(resS (bitsK l st k) s).2] | none => tookK l st k) = _
  rw [h]
theorem bitsK_len (l : List Bool) (st : List Step) (k : Nat) : (bitsK l st k).length = sizeK l.length st k := by
  induction k with
  | zero => rfl
  | succ k ih =>
    unfold bitsK sizeK
    cases st[k]? with
    | none => exact ih
    | some s => simp only; rw [resS_len, ih]
theorem tookK_len (l : List Bool) (st : List Step) (k : Nat) (h : k ≤ st.length) : (tookK l st k).length = k := by
  induction k with
  | zero => rfl
  | succ k ih =>
    rw [tookK_succ l st k _ (List.getElem?_eq_getElem (by omega)), List.length_append, ih (by omega)]; rfl
end Go.Proofs.Ytjhfebhefclenaa
