/-
  PLAIN: a part of a picture; a part of a part. GROUND: an array of bytes that comes as an argument.
-/
import Derived.Test.YtimfaplnhlnjlaaFill
namespace Go.Proofs.Ytimfaplnhlnjlaa
open Go.RowKit Go.ChangeShapes Go.WideShapes Go.ChangeAt

/-- Bytes as values. -/
def b8 (l : List Nat) : List Value := l.map fun x : Nat => Value.int .u8 ((x : Nat) : Int)
theorem b8_len (l : List Nat) : (b8 l).length = l.length := by simp [b8]
theorem b8_one (l : List Nat) : ∀ u ∈ b8 l, u.oneCell' = true := fun u hu => by
  simp only [b8, List.mem_map] at hu
  obtain ⟨x, _, rfl⟩ := hu
  rfl
theorem b8_at (l : List Nat) (j : Nat) (h : j < l.length) : (b8 l)[j]? = some (.int .u8 ((l.getD j 0 : Nat) : Int)) := by
  simp [b8, List.getD, h]
theorem b8_set (l : List Nat) (i x : Nat) : (b8 l).set i (.int .u8 (x : Int)) = b8 (l.set i x) := by simp [b8, List.map_set]

/-- The part of a picture W wide from (x, y) on, a wide and b high. -/
def partOf (L : List Nat) (W x y a b : Nat) : List Nat := (List.range (a * b)).map fun j => L.getD ((y + j / a) * W + x + j % a) 0
theorem partOf_len (L : List Nat) (W x y a b : Nat) : (partOf L W x y a b).length = a * b := by simp [partOf]
theorem partOf_at (L : List Nat) (W x y a b j : Nat) (h : j < a * b) : (partOf L W x y a b).getD j 0 = L.getD ((y + j / a) * W + x + j % a) 0 := by
  simp [partOf, List.getD, h]
theorem ext_getD {l m : List Nat} (hl : l.length = m.length) (h : ∀ j, j < l.length → l.getD j 0 = m.getD j 0) : l = m := by
  apply List.ext_getElem hl
  intro j h1 h2
  have := h j h1
  rwa [List.getD, List.getElem?_eq_getElem h1, List.getD, List.getElem?_eq_getElem h2] at this
/-- A part of a part is a part. -/
theorem part_part (L : List Nat) (W x y a b i k c d : Nat) (hc : 0 < c) (hi : i + c ≤ a) (hk : k + d ≤ b) : partOf (partOf L W x y a b) a i k c d = partOf L W (x + i) (y + k) c d := by
  apply ext_getD
  · rw [partOf_len, partOf_len]
  · intro j hj
    rw [partOf_len] at hj
    rw [partOf_at _ _ _ _ _ _ _ hj, partOf_at _ _ _ _ _ _ _ hj]
    have h1 : j / c < d := Nat.div_lt_of_lt_mul hj
    have h2 : j % c < c := Nat.mod_lt _ hc
    generalize j / c = r at *
    generalize j % c = m at *
    have h3 : (k + r) * a + i + m < a * b := by
      have : (k + r + 1) * a ≤ b * a := Nat.mul_le_mul_right _ (by omega)
      rw [Nat.add_mul, Nat.one_mul] at this
      rw [Nat.mul_comm a b]; omega
    rw [partOf_at _ _ _ _ _ _ _ h3]
    have h4 : (k + r) * a + i + m = (i + m) + a * (k + r) := by rw [Nat.mul_comm]; omega
    rw [h4, Nat.add_mul_div_left _ _ (by omega), Nat.add_mul_mod_self_left, Nat.div_eq_of_lt (by omega), Nat.mod_eq_of_lt (by omega)]
    congr 1
    rw [Nat.zero_add, Nat.add_assoc y k r]
    generalize (y + (k + r)) * W = M
    omega
/-- The whole. -/
theorem part_all (L : List Nat) (W H : Nat) (hL : L.length = W * H) : partOf L W 0 0 W H = L := by
  apply ext_getD
  · rw [partOf_len, hL]
  · intro j hj
    rw [partOf_len] at hj
    rw [partOf_at _ _ _ _ _ _ _ hj]
    congr 1
    have := Nat.div_add_mod' j W
    rw [Nat.zero_add]; omega
/-- All columns. -/
theorem part_rows (L : List Nat) (W y b : Nat) (hL : (y + b) * W ≤ L.length) : partOf L W 0 y W b = (L.drop (y * W)).take (W * b) := by
  have h0 : (y + b) * W = y * W + W * b := by rw [Nat.add_mul, Nat.mul_comm b W]
  apply ext_getD
  · rw [partOf_len, List.length_take, List.length_drop]; omega
  · intro j hj
    rw [partOf_len] at hj
    rw [partOf_at _ _ _ _ _ _ _ hj, List.getD, List.getD, List.getElem?_take_of_lt hj, List.getElem?_drop]
    have := Nat.div_add_mod' j W
    rw [Nat.add_mul]
    congr 2
    omega
/-- One row more. -/
theorem part_row (L : List Nat) (W x y a b r : Nat) (ha : 0 < a) (hr : r < b) (hL : (y + r) * W + x + a ≤ L.length) : splice (fillA (partOf L W x y a b) 0 (a * b) (a * r)) (a * r) ((L.drop ((y + r) * W + x)).take a) = fillA (partOf L W x y a b) 0 (a * b) (a * (r + 1)) := by
  have hlen := partOf_len L W x y a b
  have h1 : a * r + a ≤ a * b := by have := Nat.mul_le_mul_left a (show r + 1 ≤ b by omega); rw [Nat.mul_add, Nat.mul_one] at this; exact this
  have hs : ((L.drop ((y + r) * W + x)).take a).length = a := by rw [List.length_take, List.length_drop]; omega
  have hk : a * (r + 1) = a * r + a := by rw [Nat.mul_add, Nat.mul_one]
  unfold splice
  rw [hs]
  have hf : (fillA (partOf L W x y a b) 0 (a * b) (a * r)).take (a * r) = (partOf L W x y a b).take (a * r) := by
    unfold fillA
    rw [List.take_append_of_le_length (by rw [List.length_take]; omega), List.take_take, Nat.min_self]
  have hd : (fillA (partOf L W x y a b) 0 (a * b) (a * r)).drop (a * r + a) = List.replicate (a * b - (a * r + a)) 0 := by
    unfold fillA
    rw [List.drop_append, List.length_take, Nat.min_eq_left (by omega), List.drop_eq_nil_of_le (by rw [List.length_take]; omega), List.nil_append, List.drop_replicate]
    congr 1; omega
  rw [hf, hd, hk]
  unfold fillA
  have ht : (partOf L W x y a b).take (a * r + a) = (partOf L W x y a b).take (a * r) ++ (L.drop ((y + r) * W + x)).take a := by
    rw [List.take_add]
    congr 1
    apply ext_getD
    · rw [hs, List.length_take, List.length_drop, hlen]; omega
    · intro j hj
      rw [List.length_take, List.length_drop, hlen] at hj
      have hja : j < a := by omega
      rw [List.getD, List.getD, List.getElem?_take_of_lt hja, List.getElem?_take_of_lt hja, List.getElem?_drop, List.getElem?_drop, ← List.getD, ← List.getD, partOf_at _ _ _ _ _ _ _ (by omega)]
      rw [Nat.add_comm (a * r) j, Nat.add_mul_div_left _ _ ha, Nat.add_mul_mod_self_left, Nat.div_eq_of_lt hja, Nat.mod_eq_of_lt hja, Nat.zero_add]
  rw [ht, List.append_assoc]
end Go.Proofs.Ytimfaplnhlnjlaa
