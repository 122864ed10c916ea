/-
  PLAIN: what a text of rows still has to say; the bits of rows, one behind the other.
-/
import Derived.Test.YtbfkjfgjeaofpaaTe3
namespace Go.Proofs.Ytbfkjfgjeaofpaa
open Go.RowKit

/-- What is left of the text at column x of row y. -/
def restL (s u n : ByteArray) (rows : List (List Bool)) (y x : Nat) : List UInt8 :=
  if y < rows.length then toks s u ((rows.getD y []).drop x) ++ n.data.toList ++ textL s u n (rows.drop (y + 1)) else []
theorem textL_cons (s u n : ByteArray) (r : List Bool) (rows : List (List Bool)) : textL s u n (r :: rows) = toks s u r ++ n.data.toList ++ textL s u n rows := by simp [textL]
theorem restL_zero (s u n : ByteArray) (rows : List (List Bool)) (y : Nat) : restL s u n rows y 0 = textL s u n (rows.drop y) := by
  unfold restL
  split
  · rename_i h
    rw [List.drop_zero, List.drop_eq_getElem_cons h, textL_cons, List.getD, List.getElem?_eq_getElem h]
    rfl
  · rename_i h
    rw [List.drop_eq_nil_of_le (by omega)]; rfl
theorem restL_step (s u n : ByteArray) (rows : List (List Bool)) (y x : Nat) (hy : y < rows.length) (hx : x < (rows.getD y []).length) :
    restL s u n rows y x = tok s u ((rows.getD y []).getD x false) ++ restL s u n rows y (x + 1) := by
  unfold restL
  rw [if_pos hy, if_pos hy]
  generalize rows.getD y [] = row at *
  rw [List.drop_eq_getElem_cons hx]
  have e : toks s u (row[x] :: row.drop (x + 1)) = tok s u row[x] ++ toks s u (row.drop (x + 1)) := by unfold toks; rw [List.flatMap_cons]
  have e2 : row.getD x false = row[x] := by rw [List.getD, List.getElem?_eq_getElem hx]; rfl
  rw [e, e2]; simp only [List.append_assoc]
theorem restL_end (s u n : ByteArray) (rows : List (List Bool)) (y x : Nat) (hy : y < rows.length) (hx : (rows.getD y []).length ≤ x) :
    restL s u n rows y x = n.data.toList ++ restL s u n rows (y + 1) 0 := by
  rw [restL_zero]; unfold restL
  rw [if_pos hy, List.drop_eq_nil_of_le hx]; rfl
theorem flat_len (rows : List (List Bool)) (W : Nat) (hr : ∀ r ∈ rows, r.length = W) : rows.flatten.length = rows.length * W := by
  induction rows with
  | nil => simp
  | cons r rows ih => rw [List.flatten_cons, List.length_append, hr r (List.mem_cons_self ..), ih (fun x hx => hr x (List.mem_cons_of_mem _ hx)), List.length_cons, Nat.add_mul]; omega
theorem flat_at (rows : List (List Bool)) (W : Nat) (hr : ∀ r ∈ rows, r.length = W) : ∀ (y x : Nat), y < rows.length → x < W → rows.flatten.getD (y * W + x) false = (rows.getD y []).getD x false := by
  induction rows with
  | nil => intro y x h; simp at h
  | cons r rows ih =>
    intro y x hy hx
    have hl := hr r (List.mem_cons_self ..)
    rw [List.flatten_cons]
    rcases y with _ | y
    · rw [Nat.zero_mul, Nat.zero_add, List.getD, List.getElem?_append_left (by omega)]
      rfl
    · have e : (y + 1) * W + x = r.length + (y * W + x) := by rw [Nat.add_mul, hl]; omega
      rw [e, List.getD, List.getElem?_append_right (by omega), Nat.add_sub_cancel_left]
      have := ih (fun x hx => hr x (List.mem_cons_of_mem _ hx)) y x (by simpa using hy) hx
      rw [List.getD] at this
      rw [this]
      rfl
theorem textL_ge (s u n : ByteArray) (rows : List (List Bool)) (W : Nat) (hr : ∀ r ∈ rows, r.length = W) (hs : 1 ≤ s.size) (hu : 1 ≤ u.size) : rows.length * W ≤ (textL s u n rows).length := by
  have htk : ∀ r : List Bool, r.length ≤ (toks s u r).length := by
    intro r
    induction r with
    | nil => simp
    | cons b r ih =>
      have e : toks s u (b :: r) = tok s u b ++ toks s u r := by simp [toks]
      have hb : 1 ≤ (tok s u b).length := by unfold tok; split <;> simpa using (by assumption)
      rw [e, List.length_append, List.length_cons]; omega
  induction rows with
  | nil => simp
  | cons r rows ih =>
    rw [textL_cons, List.length_append, List.length_append, List.length_cons, Nat.add_mul]
    have h1 := htk r
    rw [hr r (List.mem_cons_self ..)] at h1
    have h2 := ih (fun x hx => hr x (List.mem_cons_of_mem _ hx))
    omega
theorem extract_rest (S : ByteArray) (p : Nat) : (S.extract p S.size).data.toList = S.data.toList.drop p := by
  simp [ByteArray.data_extract, Array.toList_extract, List.extract]
  have : S.size - p = (S.data.toList.drop p).length := by simp
  rw [this, List.take_length]
theorem byte_rest (S : ByteArray) (p : Nat) (c : UInt8) (r : List UInt8) (h : S.data.toList.drop p = c :: r) : ∃ hp : p < S.size, S[p]'hp = c := by
  have hl : p < S.data.toList.length := by
    rcases Nat.lt_or_ge p S.data.toList.length with h1 | h1
    · exact h1
    · rw [List.drop_eq_nil_of_le h1] at h; cases h
  rw [List.drop_eq_getElem_cons hl] at h
  injection h with h1 _
  exact ⟨by simpa using hl, h1⟩
theorem drop_more {α : Type} (l : List α) (p : Nat) (a b : List α) (h : l.drop p = a ++ b) : l.drop (p + a.length) = b := by
  rw [← List.drop_drop, h, List.drop_left]
theorem fill_getD (l : List Bool) (N k : Nat) (h : k < l.length) (hl : l.length ≤ N) (b : Bool) (hb : l.getD k false = b) : (bv (fillA l false N k)).toArray.setIfInBounds k (.bool b) = (bv (fillA l false N (k + 1))).toArray := by
  have e : l[k] = b := by rw [← hb, List.getD, List.getElem?_eq_getElem h]; rfl
  rw [bv_set, ← e, fill_set l false N k h hl]
end Go.Proofs.Ytbfkjfgjeaofpaa
