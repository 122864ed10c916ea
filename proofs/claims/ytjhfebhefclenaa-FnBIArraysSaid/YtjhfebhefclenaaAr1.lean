/-
  PLAIN: an array's words are those of its bits: bits set, turned, appended.
-/
import Derived.Test.YtjhfebhefclenaaBa3
import Derived.Test.YtjhfebhefclenaaFill
namespace Go.Proofs.Ytjhfebhefclenaa
open Go.RowKit

theorem wordsOf_len (l : List Bool) : (wordsOf l).length = (l.length + 31) / 32 := setBits_len _ _ _
theorem wordsOf_lt (l : List Bool) : ∀ x ∈ wordsOf l, x < 4294967296 := setBits_lt _ _ _
/-- Bit i of words. -/
def bitW (ws : List Nat) (i : Nat) : Bool := (ws.getD (i / 32) 0).testBit (i % 32)
theorem bitW_of (l : List Bool) (i : Nat) : bitW (wordsOf l) i = l.getD i false := by
  unfold bitW wordsOf
  rw [setBits_bit _ _ _ _ (by omega)]
  by_cases h : i < l.length
  · simp [h]
  · simp [h, List.getD]
theorem words_eq {a b : List Nat} (hl : a.length = b.length) (ha : ∀ x ∈ a, x < 4294967296) (hb : ∀ x ∈ b, x < 4294967296) (h : ∀ i, bitW a i = bitW b i) : a = b := by
  apply List.ext_getElem hl
  intro k h1 h2
  apply Nat.eq_of_testBit_eq
  intro j
  by_cases hj : j < 32
  · have := h (32 * k + j)
    unfold bitW at this
    rw [show (32 * k + j) / 32 = k by omega, show (32 * k + j) % 32 = j by omega, List.getD, List.getElem?_eq_getElem h1, List.getD, List.getElem?_eq_getElem h2] at this
    exact this
  · have e : (2 : Nat) ^ 32 ≤ 2 ^ j := Nat.pow_le_pow_right (by decide) (by omega)
    have h3 := ha _ (List.getElem_mem h1)
    have h4 := hb _ (List.getElem_mem h2)
    rw [Nat.testBit_lt_two_pow (by omega), Nat.testBit_lt_two_pow (by omega)]
theorem words_of {ws : List Nat} {l : List Bool} (hl : ws.length = (l.length + 31) / 32) (hw : ∀ x ∈ ws, x < 4294967296) (h : ∀ i, bitW ws i = l.getD i false) : ws = wordsOf l :=
  words_eq (hl.trans (wordsOf_len l).symm) hw (wordsOf_lt l) fun i => (h i).trans (bitW_of l i).symm
theorem getD_set (l : List Bool) (i j : Nat) (b : Bool) (h : i < l.length) : (l.set i b).getD j false = if i = j then b else l.getD j false := by
  rw [List.getD, List.getElem?_set]
  by_cases hij : i = j
  · subst hij; simp [h]
  · simp [hij, List.getD]
theorem bitW_setW (ws : List Nat) (k i : Nat) (hk : k / 32 < ws.length) : bitW (setW ws k) i = (bitW ws i || decide (k = i)) := setW_bit ws k i hk
/-- Bit i is turned. -/
def flipW (ws : List Nat) (i : Nat) : List Nat := ws.set (i / 32) (ws.getD (i / 32) 0 ^^^ 2 ^ (i % 32))
theorem flipW_len (ws : List Nat) (i : Nat) : (flipW ws i).length = ws.length := by simp [flipW]
theorem getD_lt {ws : List Nat} (h : ∀ x ∈ ws, x < 4294967296) (k : Nat) : ws.getD k 0 < 2 ^ 32 := by
  rw [List.getD]
  rcases Nat.lt_or_ge k ws.length with hl | hl
  · rw [List.getElem?_eq_getElem hl]; exact h _ (List.getElem_mem hl)
  · rw [List.getElem?_eq_none hl]; decide
theorem flipW_lt {ws : List Nat} {i : Nat} (h : ∀ x ∈ ws, x < 4294967296) : ∀ x ∈ flipW ws i, x < 4294967296 := by
  intro x hx
  rcases List.mem_or_eq_of_mem_set hx with hx | hx
  · exact h x hx
  · rw [hx]
    exact Nat.xor_lt_two_pow (getD_lt h _) (Nat.pow_lt_pow_right (n := 32) (by decide) (Nat.mod_lt _ (by decide)))
theorem bitW_flipW (ws : List Nat) (k i : Nat) (hk : k / 32 < ws.length) : bitW (flipW ws k) i = (bitW ws i ^^ decide (k = i)) := by
  unfold bitW flipW
  by_cases h : k / 32 = i / 32
  · rw [List.getD, h, List.getElem?_set_self (by omega), Option.getD_some, Nat.testBit_xor, Nat.testBit_two_pow]
    congr 1
    rw [Bool.eq_iff_iff]; simp; omega
  · rw [List.getD, List.getElem?_set_ne h, List.getD]
    have : decide (k = i) = false := by simp; omega
    rw [this, Bool.xor_false]
theorem words_set (l : List Bool) (i : Nat) (h : i < l.length) : setW (wordsOf l) i = wordsOf (l.set i true) := by
  apply words_of
  · rw [setW_len, wordsOf_len, List.length_set]
  · exact setW_lt (wordsOf_lt l)
  · intro j
    rw [bitW_setW _ _ _ (by rw [wordsOf_len]; omega), bitW_of, getD_set _ _ _ _ h]
    by_cases hij : i = j <;> simp [hij]
theorem words_flip (l : List Bool) (i : Nat) (h : i < l.length) : flipW (wordsOf l) i = wordsOf (l.set i (!l.getD i false)) := by
  apply words_of
  · rw [flipW_len, wordsOf_len, List.length_set]
  · exact flipW_lt (wordsOf_lt l)
  · intro j
    rw [bitW_flipW _ _ _ (by rw [wordsOf_len]; omega), bitW_of, getD_set _ _ _ _ h]
    by_cases hij : i = j
    · subst hij; simp
    · simp [hij]
theorem words_zero (n : Nat) : List.replicate ((n + 31) / 32) 0 = wordsOf (List.replicate n false) := by
  apply words_of
  · simp
  · intro x hx; rw [List.eq_of_mem_replicate hx]; decide
  · intro i
    unfold bitW
    have e : (List.replicate ((n + 31) / 32) (0 : Nat)).getD (i / 32) 0 = 0 := by
      rw [List.getD]
      rcases Nat.lt_or_ge (i / 32) ((n + 31) / 32) with h | h
      · rw [List.getElem?_replicate_of_lt h]; rfl
      · rw [List.getElem?_eq_none (by simpa using h)]; rfl
    have e2 : (List.replicate n false).getD i false = false := by
      rw [List.getD]
      rcases Nat.lt_or_ge i n with h | h
      · rw [List.getElem?_replicate_of_lt h]; rfl
      · rw [List.getElem?_eq_none (by simpa using h)]; rfl
    rw [e, e2, Nat.zero_testBit]
/-- Room for more words. -/
def roomW (ws : List Nat) (n : Nat) : List Nat := if n ≤ 32 * ws.length then ws else ws ++ List.replicate ((n + 31) / 32 - ws.length) 0
theorem roomW_lt {ws : List Nat} {n : Nat} (h : ∀ x ∈ ws, x < 4294967296) : ∀ x ∈ roomW ws n, x < 4294967296 := by
  intro x hx
  unfold roomW at hx
  split at hx
  · exact h x hx
  · rcases List.mem_append.1 hx with hx | hx
    · exact h x hx
    · rw [List.eq_of_mem_replicate hx]; decide
theorem roomW_len (l : List Bool) (n : Nat) (h : l.length ≤ n) : (roomW (wordsOf l) n).length = (n + 31) / 32 := by
  have hl := wordsOf_len l
  unfold roomW
  split
  · omega
  · rw [List.length_append, List.length_replicate]; omega
theorem bitW_room (ws : List Nat) (n i : Nat) : bitW (roomW ws n) i = bitW ws i := by
  unfold roomW
  split
  · rfl
  · unfold bitW
    rw [List.getD, List.getElem?_append]
    split
    · rfl
    · rename_i h
      rw [List.getD, List.getElem?_eq_none (show ws.length ≤ i / 32 by omega), List.getElem?_replicate]
      split <;> rfl
/-- Words of bits, with room for so many (n). -/
def wordsN (l : List Bool) (n : Nat) : List Nat := roomW (wordsOf l) n
theorem wordsN_self (l : List Bool) : wordsN l l.length = wordsOf l := by
  unfold wordsN roomW
  rw [if_pos (by rw [wordsOf_len]; omega)]
theorem wordsN_len (l : List Bool) (n : Nat) (h : l.length ≤ n) : (wordsN l n).length = (n + 31) / 32 := roomW_len l n h
theorem wordsN_lt (l : List Bool) (n : Nat) : ∀ x ∈ wordsN l n, x < 4294967296 := roomW_lt (wordsOf_lt l)
theorem bitW_N (l : List Bool) (n i : Nat) : bitW (wordsN l n) i = l.getD i false := by unfold wordsN; rw [bitW_room, bitW_of]
theorem getD_append (l : List Bool) (b : Bool) (i : Nat) : (l ++ [b]).getD i false = (l.getD i false || (decide (l.length = i) && b)) := by
  rw [List.getD, List.getElem?_append]
  by_cases h : i < l.length
  · rw [if_pos h]
    have : ¬ l.length = i := by omega
    simp [this, List.getD]
  · rw [if_neg h]
    have e : l.getD i false = false := by rw [List.getD, List.getElem?_eq_none (by omega)]; rfl
    rw [e]
    by_cases h2 : l.length = i
    · subst h2; simp
    · rw [List.getElem?_eq_none (by simp; omega)]; simp [h2]
theorem wordsN_room (l : List Bool) (n m : Nat) (hl : l.length ≤ n) (hm : l.length ≤ m) : roomW (wordsN l n) m = wordsN l (max n m) := by
  have h1 := wordsN_len l n hl
  apply words_eq
  · have h2 := wordsN_len l (max n m) (by omega)
    rw [h2]
    unfold roomW
    split
    · rw [h1]; omega
    · rw [List.length_append, List.length_replicate, h1]; omega
  · exact roomW_lt (wordsN_lt l n)
  · exact wordsN_lt _ _
  · intro i; rw [bitW_room, bitW_N, bitW_N]
theorem wordsN_one (l : List Bool) (n : Nat) (h : l.length < n) : setW (wordsN l n) l.length = wordsN (l ++ [true]) n := by
  have h1 := wordsN_len l n (by omega)
  apply words_eq
  · rw [setW_len, h1, wordsN_len _ _ (by simp; omega)]
  · exact setW_lt (wordsN_lt l n)
  · exact wordsN_lt _ _
  · intro i
    rw [bitW_setW _ _ _ (by rw [h1]; omega), bitW_N, bitW_N, getD_append, Bool.and_true]
theorem wordsN_nil (l : List Bool) (n : Nat) (h : l.length < n) : wordsN l n = wordsN (l ++ [false]) n := by
  apply words_eq
  · rw [wordsN_len _ _ (by omega), wordsN_len _ _ (by simp; omega)]
  · exact wordsN_lt _ _
  · exact wordsN_lt _ _
  · intro i
    rw [bitW_N, bitW_N, getD_append, Bool.and_false, Bool.or_false]
end Go.Proofs.Ytjhfebhefclenaa
