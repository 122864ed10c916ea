/-
  GROUND: rows of bools that the call itself makes: each row a block of its own; they can be written.
-/
import Derived.Test.YtcldipbboidjbaaRw
namespace Go.Proofs.Ytcldipbboidjbaa
open Go.RowKit

/-- A row in block b, n long. -/
def rowV (n b : Nat) : Value := .slice (some ⟨b, 0, none⟩) n n
/-- In block g lie m rows of n bits, of which the first ones are made: row i in block bs[i]. -/
structure MkR (w : World) (g n m : Nat) (bs : List Nat) (F : Nat → Nat → Bool) : Prop where
  out : Blk w g 29 (padV (bs.map (rowV n)) m).toArray
  rows : ∀ i, i < bs.length → Blk w (bs.getD i 0) 4 (bv (rowF n F i)).toArray
  above : ∀ i, i < bs.length → g < bs.getD i 0
  inc : ∀ i j, i < j → j < bs.length → bs.getD i 0 < bs.getD j 0
section
variable {w w' : World} {g n m : Nat} {bs : List Nat} {F : Nat → Nat → Bool}
theorem MkR.lt (h : MkR w g n m bs F) (i : Nat) (hi : i < bs.length) : bs.getD i 0 < w.heap.size := (h.rows i hi).lt
theorem MkR.up (h : MkR w g n m bs F) (hb : Below w.heap.size w w') : MkR w' g n m bs F :=
  ⟨h.out.up hb, fun i hi => (h.rows i hi).up hb, h.above, h.inc⟩
theorem MkR.drew (h : MkR w g n m bs F) : MkR w.drew g n m bs F := ⟨h.out, h.rows, h.above, h.inc⟩
theorem MkR.begin_ (w : World) (n m : Nat) (F : Nat → Nat → Bool) : MkR (w.alloc (.cells (List.replicate m (Value.slice none 0 0)).toArray 29)) w.heap.size n m [] F :=
  ⟨by unfold padV; exact Blk.fresh w _ _, fun i hi => absurd hi (Nat.not_lt_zero _), fun i hi => absurd hi (Nat.not_lt_zero _), fun i j _ hj => absurd hj (Nat.not_lt_zero _)⟩
theorem getD_snocN_lo (bs : List Nat) (u : Nat) (i : Nat) (h : i < bs.length) : (bs ++ [u]).getD i 0 = bs.getD i 0 := by
  rw [List.getD, List.getElem?_append_left h, List.getD]
theorem getD_snocN (bs : List Nat) (u : Nat) : (bs ++ [u]).getD bs.length 0 = u := by
  rw [List.getD, List.getElem?_concat_length]; rfl
/-- The next row is made, and filled. -/
theorem MkR.next (h : MkR w g n m bs F) (hlt : bs.length < m) (cs : Array Value) {wm : World} (hwm : wm = (w.setCell ⟨g, bs.length, none⟩ (rowV n w.heap.size)).alloc (.cells cs 4)) :
    Blk wm g 29 (padV ((bs ++ [w.heap.size]).map (rowV n)) m).toArray ∧ Blk wm w.heap.size 4 cs ∧
    ∀ wi, Blk wi w.heap.size 4 (bv (rowF n F bs.length)).toArray → Below w.heap.size wm wi → MkR wi g n m (bs ++ [w.heap.size]) F := by
  have hgl := h.out.lt
  have h1 : Blk wm g 29 (padV ((bs ++ [w.heap.size]).map (rowV n)) m).toArray := by
    have h2 := (h.out.put bs.length (rowV n w.heap.size)).alloc (.cells cs 4)
    have h3 := padV_set (bs.map (rowV n)) m (rowV n w.heap.size) (by simpa using hlt)
    rw [List.length_map] at h3
    rw [h3] at h2
    rw [hwm, List.map_append]
    exact h2
  have h4 : ∀ i, i < bs.length → Blk wm (bs.getD i 0) 4 (bv (rowF n F i)).toArray := fun i hi => by
    rw [hwm]
    exact ((h.rows i hi).far (p := ⟨g, bs.length, none⟩) (by have := h.above i hi; show bs.getD i 0 ≠ g; omega) _).alloc _
  have h5 : Blk wm w.heap.size 4 cs := by rw [hwm]; exact Blk.fresh' (by simp)
  refine ⟨h1, h5, fun wi hr hb => ⟨h1.below hb hgl, fun i hi => ?_, fun i hi => ?_, fun i j hij hj => ?_⟩⟩
  · rw [List.length_append, List.length_singleton] at hi
    rcases Nat.lt_or_ge i bs.length with hl | hl
    · rw [getD_snocN_lo _ _ _ hl]; exact (h4 i hl).below hb (h.lt i hl)
    · obtain rfl : i = bs.length := by omega
      rw [getD_snocN]; exact hr
  · rw [List.length_append, List.length_singleton] at hi
    rcases Nat.lt_or_ge i bs.length with hl | hl
    · rw [getD_snocN_lo _ _ _ hl]; exact h.above i hl
    · obtain rfl : i = bs.length := by omega
      rw [getD_snocN]; exact hgl
  · rw [List.length_append, List.length_singleton] at hj
    rw [getD_snocN_lo _ _ i (by omega)]
    rcases Nat.lt_or_ge j bs.length with hl | hl
    · rw [getD_snocN_lo _ _ _ hl]; exact h.inc i j hij hl
    · obtain rfl : j = bs.length := by omega
      rw [getD_snocN]; exact h.lt i (by omega)
/-- The cell of row i in the outer block. -/
theorem MkR.at_ (h : MkR w g n m bs F) (i : Nat) (hi : i < bs.length) : w.cell? ⟨g, i, none⟩ = some (rowV n (bs.getD i 0)) := by
  rw [h.out.cell, List.getElem?_toArray]
  unfold padV
  rw [List.getElem?_append_left (by simpa using hi), List.getElem?_map, List.getD, List.getElem?_eq_getElem hi]
  rfl
theorem MkR.last {u : Nat} (h : Blk w g 29 (padV ((bs ++ [u]).map (rowV n)) m).toArray) : w.cell? ⟨g, bs.length, none⟩ = some (rowV n u) := by
  rw [h.cell, List.getElem?_toArray]
  unfold padV
  rw [List.getElem?_append_left (by simp), List.getElem?_map, List.getElem?_concat_length]
  rfl
/-- The cell that is made next. -/
theorem MkR.ahead (h : MkR w g n m bs F) (hlt : bs.length < m) : w.cell? ⟨g, bs.length, none⟩ = some (.slice none 0 0) := by
  rw [h.out.cell]
  have := padV_at (bs.map (rowV n)) m (by simpa using hlt)
  rwa [List.length_map] at this
/-- A bit. -/
theorem MkR.bit (h : MkR w g n m bs F) (i c : Nat) (hi : i < bs.length) (hc : c < n) : w.cell? ⟨bs.getD i 0, c, none⟩ = some (.bool (F c i)) := by
  rw [(h.rows i hi).cell, List.getElem?_toArray]
  have := bv_at (rowF n F i) c (by rw [rowF_len]; exact hc)
  rw [this, rowF_at]
theorem MkR.free (h : MkR w g n m bs F) (i c : Nat) (hi : i < bs.length) : w.frozen? ⟨bs.getD i 0, c, none⟩ = false := (h.rows i hi).frozen c
theorem MkR.ne (h : MkR w g n m bs F) (i j : Nat) (hi : i < bs.length) (hj : j < bs.length) (hij : i ≠ j) : bs.getD i 0 ≠ bs.getD j 0 := by
  rcases Nat.lt_or_ge i j with h1 | h1
  · have := h.inc i j h1 hj; omega
  · have := h.inc j i (by omega) hi; omega
theorem rowF_set (n : Nat) (F : Nat → Nat → Bool) (c i : Nat) (b : Bool) (hc : c < n) : (rowF n F i).set c b = rowF n (fun x y => if x = c ∧ y = i then b else F x y) i := by
  have _ := hc
  apply List.ext_getElem
  · simp [rowF_len]
  · intro k h1 h2
    rw [List.getElem_set, rowF_at]
    split
    · rename_i he; subst he; rw [rowF_at]; exact (if_pos ⟨rfl, rfl⟩).symm
    · rename_i he
      rw [rowF_at, if_neg (by omega)]
theorem rowF_congr {n i : Nat} {F G : Nat → Nat → Bool} (h : ∀ x, x < n → F x i = G x i) : rowF n F i = rowF n G i := by
  unfold rowF
  exact List.map_congr_left (fun x hx => h x (List.mem_range.1 hx))
theorem MkR.congr {G : Nat → Nat → Bool} (h : MkR w g n m bs F) (he : ∀ x y, x < n → y < bs.length → F x y = G x y) : MkR w g n m bs G :=
  ⟨h.out, fun i hi => by rw [← rowF_congr (fun x hx => he x i hx hi)]; exact h.rows i hi, h.above, h.inc⟩
/-- A bit is written. -/
theorem MkR.put (h : MkR w g n m bs F) (i c : Nat) (b : Bool) (hi : i < bs.length) (hc : c < n) :
    MkR (w.setCell ⟨bs.getD i 0, c, none⟩ (.bool b)) g n m bs (fun x y => if x = c ∧ y = i then b else F x y) := by
  refine ⟨h.out.far (by have := h.above i hi; show g ≠ bs.getD i 0; omega) _, fun j hj => ?_, h.above, h.inc⟩
  by_cases hji : j = i
  · subst hji
    have h2 := (h.rows j hj).put c (.bool b)
    rw [bv_set, rowF_set _ _ _ _ _ hc] at h2
    exact h2
  · have h2 := (h.rows j hj).far (p := ⟨bs.getD i 0, c, none⟩) (h.ne j i hj hi hji) (.bool b)
    rw [rowF_congr (G := F) (fun x _ => if_neg (by omega))]
    exact h2
/-- What rows that are whole read as. -/
theorem MkR.rowsT (h : MkR w g n m bs F) (hm : bs.length = m) (h16 : n ≤ 65536 ∧ m ≤ 65536) : RowsT w (.slice (some ⟨g, 0, none⟩) m m) (rowsF n m F) := by
  refine ⟨bs.map (rowV n), ?_, by rw [List.length_map, rowsF_len]; exact hm, fun i hi => ?_⟩
  · have := h.out
    rw [← hm, show bs.length = (bs.map (rowV n)).length by simp, padV_full] at this
    exact RdT.of_blk this (by simp [hm]) (by simp [hm]) (by unfold maxLen; omega)
  · rw [rowsF_len] at hi
    rw [rowsF_at _ _ _ _ hi]
    have e : (bs.map (rowV n)).getD i undef = rowV n (bs.getD i 0) := by
      rw [List.getD, List.getElem?_map, List.getElem?_eq_getElem (by omega), List.getD, List.getElem?_eq_getElem (by omega)]; rfl
    rw [e]
    exact RdT.of_blk (h.rows i (by omega)) (by rw [bv_len, rowF_len]) (by rw [bv_len, rowF_len]; exact Nat.le_refl _) (by unfold maxLen; omega)
end
end Go.Proofs.Ytcldipbboidjbaa
