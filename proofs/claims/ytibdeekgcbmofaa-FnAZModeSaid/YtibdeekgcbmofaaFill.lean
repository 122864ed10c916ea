/-
  GROUND: a list that is filled place by place; where a walk is stopped.
-/
import Derived.Test.YtibdeekgcbmofaaBase
import Derived.Laws.CopyOwn
namespace Go.Proofs.Ytibdeekgcbmofaa
open Go.RowKit

/-- The first k of a list, and then z, N in all. -/
def fillA {α : Type} (l : List α) (z : α) (N k : Nat) : List α := l.take k ++ List.replicate (N - k) z
theorem fill_len {α : Type} (l : List α) (z : α) (N k : Nat) (hk : k ≤ l.length) (hl : l.length ≤ N) : (fillA l z N k).length = N := by
  unfold fillA; rw [List.length_append, List.length_take, List.length_replicate]; omega
theorem fill_set {α : Type} (l : List α) (z : α) (N k : Nat) (hk : k < l.length) (_hl : l.length ≤ N) : (fillA l z N k).set k l[k] = fillA l z N (k + 1) := by
  unfold fillA
  have e : N - k = (N - (k + 1)) + 1 := by omega
  have h1 : (l.take k).length = k := by rw [List.length_take]; omega
  rw [List.set_append, if_neg (by omega), h1, Nat.sub_self, e, List.replicate_succ, List.set_cons_zero, List.take_succ_eq_append_getElem hk, List.append_assoc]
  rfl
theorem fill_zero {α : Type} (l : List α) (z : α) (N : Nat) : fillA l z N 0 = List.replicate N z := by simp [fillA]
theorem fill_end {α : Type} (l : List α) (z : α) (N : Nat) : fillA l z N l.length = l ++ List.replicate (N - l.length) z := by simp [fillA]
theorem fill_full {α : Type} (l : List α) (z : α) : fillA l z l.length l.length = l := by simp [fillA]
/-- Stops the walk at the operation that writes a slot. -/
theorem stop_at {P : Program} {ops : Array Oper} {rest : List Oper} {o : Oper} {a : Act} {Q : Exit → Act → World → Prop} {w : World} (h : Hid (wpList P ops Q (o :: rest) a w)) : wpList P ops Q (o :: rest) a w := h
theorem fill_at_k {α : Type} (l : List α) (z : α) (N k : Nat) (hk : k < N) (hkl : k ≤ l.length) : (fillA l z N k)[k]? = some z := by
  unfold fillA
  rw [List.getElem?_append_right (by rw [List.length_take]; omega), List.length_take, Nat.min_eq_left hkl, Nat.sub_self, List.getElem?_replicate_of_lt (by omega)]
theorem fill_at_lo {α : Type} (l : List α) (z : α) (N k i : Nat) (hi : i < k) (hl : k ≤ l.length) : (fillA l z N k)[i]? = l[i]? := by
  unfold fillA
  rw [List.getElem?_append_left (by rw [List.length_take]; omega), List.getElem?_take_of_lt hi]
end Go.Proofs.Ytibdeekgcbmofaa
