/-
  PLAIN: words of an Aztec symbol as bits, with and without the bits that are stuffed in.
-/
import Derived.Test.YtpjaehljgpopmaaAp1
import Derived.Test.YtpjaehljgpopmaaFill
namespace Go.Proofs.Ytpjaehljgpopmaa

/-- How many bits a word has, by the layers. -/
def widN (n : Nat) : Nat := if n ≤ 2 then 6 else if n ≤ 8 then 8 else if n ≤ 22 then 10 else 12
theorem widN_or (n : Nat) : widN n = 6 ∨ widN n = 8 ∨ widN n = 10 ∨ widN n = 12 := by unfold widN; split; simp; split; simp; split <;> simp
theorem widN_le (n : Nat) : 6 ≤ widN n ∧ widN n ≤ 12 := by rcases widN_or n with h | h | h | h <;> omega
/-- Words as bits. -/
def wbits (width : Nat) (ws : List Nat) : List Bool := (ws.map fun x => putL x width).flatten
theorem wbits_len (width : Nat) (ws : List Nat) : (wbits width ws).length = width * ws.length := by
  induction ws with
  | nil => rfl
  | cons x r ih =>
    have : wbits width (x :: r) = putL x width ++ wbits width r := rfl
    rw [this, List.length_append, putL_len, ih, List.length_cons, Nat.mul_succ, Nat.add_comm]
theorem wbits_app (width : Nat) (a b : List Nat) : wbits width (a ++ b) = wbits width a ++ wbits width b := by simp [wbits]
theorem wbits_snoc (width : Nat) (a : List Nat) (x : Nat) : wbits width (a ++ [x]) = wbits width a ++ putL x width := by rw [wbits_app]; simp [wbits]
/-- Word i of bits, behind some bits that are left over. -/
theorem wbits_read (width : Nat) (pre : List Bool) (ws : List Nat) (i : Nat) (hi : i < ws.length) : ((pre ++ wbits width ws).drop (pre.length + width * i)).take width = putL (ws.getD i 0) width := by
  have e1 : ws = ws.take i ++ (ws.getD i 0 :: ws.drop (i + 1)) := by
    rw [List.getD, List.getElem?_eq_getElem hi, Option.getD_some, ← List.drop_eq_getElem_cons hi, List.take_append_drop]
  have e2 : wbits width ws = wbits width (ws.take i) ++ (putL (ws.getD i 0) width ++ wbits width (ws.drop (i + 1))) := by
    have : wbits width (ws.getD i 0 :: ws.drop (i + 1)) = putL (ws.getD i 0) width ++ wbits width (ws.drop (i + 1)) := rfl
    rw [← this, ← wbits_app, ← e1]
  have hl : (wbits width (ws.take i)).length = width * i := by rw [wbits_len, List.length_take, Nat.min_eq_left (by omega)]
  rw [e2, ← List.append_assoc, List.drop_append, List.drop_of_length_le (by rw [List.length_append, hl]; omega), List.length_append, hl, Nat.sub_self, List.drop_zero, List.nil_append, List.take_append_of_le_length (by rw [putL_len]; exact Nat.le_refl _), List.take_of_length_le (by rw [putL_len]; exact Nat.le_refl _)]
/-- A word without the bit that is stuffed in. -/
def isStuf (width x : Nat) : Bool := x == 1 || x == 2 ^ width - 2
def unW (width x : Nat) : List Bool := if isStuf width x = true then putL (x / 2) (width - 1) else putL x width
def unL (width : Nat) (ws : List Nat) : List Bool := (ws.map (unW width)).flatten
theorem unL_snoc (width : Nat) (a : List Nat) (x : Nat) : unL width (a ++ [x]) = unL width a ++ unW width x := by simp [unL]
/-- How many bits are stuffed in. -/
def cntS (width : Nat) (ws : List Nat) : Nat := (ws.map fun x => (isStuf width x).toNat).sum
theorem cntS_snoc (width : Nat) (a : List Nat) (x : Nat) : cntS width (a ++ [x]) = cntS width a + (isStuf width x).toNat := by simp [cntS]
theorem unW_len (width x : Nat) (hw : 1 ≤ width) : (unW width x).length + (isStuf width x).toNat = width := by
  unfold unW
  cases h : isStuf width x
  · rw [if_neg (by decide), putL_len]; rfl
  · rw [if_pos rfl, putL_len]; simp; omega
theorem unL_len (width : Nat) (ws : List Nat) (hw : 1 ≤ width) : (unL width ws).length + cntS width ws = ws.length * width := by
  induction ws with
  | nil => simp [unL, cntS]
  | cons x r ih =>
    have e1 : unL width (x :: r) = unW width x ++ unL width r := rfl
    have e2 : cntS width (x :: r) = (isStuf width x).toNat + cntS width r := by simp [cntS]
    have := unW_len width x hw
    rw [e1, e2, List.length_append, List.length_cons, Nat.succ_mul]
    omega
/-- Bit j of word i in the bits of all words. -/
theorem unL_at (width : Nat) (ws : List Nat) (i j : Nat) (hi : i < ws.length) (hj : j < (unW width (ws.getD i 0)).length) : (unL width ws)[(unL width (ws.take i)).length + j]? = (unW width (ws.getD i 0))[j]? := by
  have e1 : ws = ws.take i ++ (ws.getD i 0 :: ws.drop (i + 1)) := by
    rw [List.getD, List.getElem?_eq_getElem hi, Option.getD_some, ← List.drop_eq_getElem_cons hi, List.take_append_drop]
  have e2 : unL width ws = unL width (ws.take i) ++ (unW width (ws.getD i 0) ++ unL width (ws.drop (i + 1))) := by
    have h1 : unL width (ws.getD i 0 :: ws.drop (i + 1)) = unW width (ws.getD i 0) ++ unL width (ws.drop (i + 1)) := rfl
    have h2 : unL width (ws.take i ++ (ws.getD i 0 :: ws.drop (i + 1))) = unL width (ws.take i) ++ unL width (ws.getD i 0 :: ws.drop (i + 1)) := by simp [unL]
    rw [← h1, ← h2, ← e1]
  rw [e2, List.getElem?_append_right (Nat.le_add_right _ _), Nat.add_sub_cancel_left, List.getElem?_append_left hj]
theorem unL_le (width : Nat) (ws : List Nat) (i : Nat) : (unL width (ws.take i)).length ≤ (unL width ws).length := by
  have h : ∀ a b, unL width (a ++ b) = unL width a ++ unL width b := fun a b => by simp [unL]
  have this := h (ws.take i) (ws.drop i)
  rw [List.take_append_drop] at this
  rw [this, List.length_append]; omega
theorem take_one (ws : List Nat) (i : Nat) (hi : i < ws.length) : ws.take (i + 1) = ws.take i ++ [ws.getD i 0] := by
  rw [List.take_succ_eq_append_getElem hi, List.getD, List.getElem?_eq_getElem hi]; rfl
theorem unL_next (width : Nat) (ws : List Nat) (i : Nat) (hi : i < ws.length) : (unL width (ws.take (i + 1))).length = (unL width (ws.take i)).length + (unW width (ws.getD i 0)).length := by
  rw [take_one ws i hi, unL_snoc, List.length_append]
/-- The bits of the two words that have one stuffed in. -/
theorem unW_one (width j : Nat) (hj : j < width - 1) : (unW width 1)[j]? = some false := by
  unfold unW isStuf
  rw [if_pos (by simp)]
  unfold putL
  rw [List.getElem?_map, List.getElem?_range hj]
  simp
theorem unW_mask (width j : Nat) (hw : width = 6 ∨ width = 8 ∨ width = 10 ∨ width = 12) (hj : j < width - 1) : (unW width (2 ^ width - 2))[j]? = some true := by
  unfold unW isStuf
  rw [if_pos (by simp)]
  unfold putL
  rw [List.getElem?_map, List.getElem?_range hj]
  simp only [Option.map_some]
  congr 1
  have e : (2 ^ width - 2) / 2 = 2 ^ (width - 1) - 1 := by rcases hw with rfl | rfl | rfl | rfl <;> decide
  have h1 := Nat.testBit_two_pow_sub_one (width - 1) (width - 1 - 1 - j)
  rw [e]
  rw [Nat.testBit_eq_decide_div_mod_eq] at h1
  rw [show decide (width - 1 - 1 - j < width - 1) = true from decide_eq_true (by omega)] at h1
  rw [beq_iff_eq]
  exact of_decide_eq_true h1
theorem unW_plain (width x j : Nat) (hs : isStuf width x = false) (hj : j < width) : (unW width x)[j]? = some (x.testBit (width - 1 - j)) := by
  unfold unW
  rw [if_neg (by rw [hs]; decide)]
  unfold putL
  rw [List.getElem?_map, List.getElem?_range hj]
  simp only [Option.map_some]
  congr 1
  rw [Nat.testBit_eq_decide_div_mod_eq, Bool.eq_iff_iff]
  simp
/-- Data words: none is all zeros or all ones. -/
def dataW (width : Nat) (xs : List Nat) : List Nat := (xs.take 200).map fun x => 1 + x % (2 ^ width - 2)
theorem dataW_len (width : Nat) (xs : List Nat) : (dataW width xs).length ≤ 200 := by unfold dataW; rw [List.length_map, List.length_take]; omega
theorem dataW_lt (width : Nat) (xs : List Nat) (hw : 2 ≤ width) : ∀ x ∈ dataW width xs, 1 ≤ x ∧ x < 2 ^ width - 1 := by
  have h4 : 2 ^ 2 ≤ 2 ^ width := Nat.pow_le_pow_right (by decide) hw
  intro x hx
  simp only [dataW, List.mem_map] at hx
  obtain ⟨y, _, rfl⟩ := hx
  have := Nat.mod_lt y (show 0 < 2 ^ width - 2 by omega)
  omega
end Go.Proofs.Ytpjaehljgpopmaa
