/-
  WALKS: encoder.ByteMatrix: NewByteMatrix, Set, GetArray, GetWidth, GetHeight.
-/
import Derived.Test.YtibnfgmhnmkfeaaPf6
namespace Go.Proofs.Ytibnfgmhnmkfeaa
open Go.RowKit

/-- y rows of n cells, in the blocks behind block g. -/
def rowsA (g y n : Nat) : List Value := (List.range y).map fun i => Value.slice (some ⟨g + 1 + i, 0, none⟩) n n
theorem rowsA_len (g y n : Nat) : (rowsA g y n).length = y := by simp [rowsA]
theorem rowsA_succ (g y n : Nat) : rowsA g (y + 1) n = rowsA g y n ++ [.slice (some ⟨g + 1 + y, 0, none⟩) n n] := by simp [rowsA, List.range_succ]
theorem rowsA_at (g y n i : Nat) (h : i < y) : (rowsA g y n)[i]? = some (.slice (some ⟨g + 1 + i, 0, none⟩) n n) := by simp [rowsA, h]
/-- Pointer p is a ByteMatrix, n wide and high; its rows lie in the blocks behind block g; its cells are f. -/
structure ByteM (w : World) (p g n : Nat) (f : Nat → Nat → Bool) : Prop where
  head : Blk w p 130 #[.slice (some ⟨g, 0, none⟩) n n, .int .i64 n, .int .i64 n]
  rows : Blk w g 72 (rowsA g n n).toArray
  row : ∀ i, i < n → Blk w (g + 1 + i) 73 (i8v (rowF n f i)).toArray
  apart : g + n < p
theorem ByteM.up {w w' : World} {p g n : Nat} {f : Nat → Nat → Bool} (h : ByteM w p g n f) (hb : Below w.heap.size w w') : ByteM w' p g n f :=
  ⟨h.head.up hb, h.rows.up hb, fun i hi => (h.row i hi).up hb, h.apart⟩
theorem rowF_false (n i : Nat) : rowF n (fun _ _ => false) i = List.replicate n false := by
  apply List.ext_getElem
  · rw [rowF_len, List.length_replicate]
  · intro j h1 h2
    rw [rowF_at, List.getElem_replicate]
set_option maxRecDepth 100000 in
theorem newByte_any (n : Nat) (w : World) (hn : n ≤ 60) :
    Calls Try.prog 36 #[.int .i64 n, .int .i64 n] w fun e w' => ∃ p, e = .returned (.pointer (some ⟨p, 0, none⟩)) ∧ ByteM w' p w.heap.size n (fun _ _ => false) ∧ Below w.heap.size w w' := by
  have hmk := fun a => mk_i8rows n a (by omega)
  have hmkb := fun a => mk_i8 n a (by omega)
  go_enter Try.func36, Try.ntmps36
  go_wp2_with fail
  have HG0 : Hid (Blk (w.alloc (Obj.cells (padV [] n).toArray 72)) w.heap.size 72 (padV (rowsA w.heap.size 0 n) n).toArray) := Lib.hid (Blk.fresh w _ _)
  have HS0 : Hid ((w.alloc (Obj.cells (padV [] n).toArray 72)).heap.size = w.heap.size + 1 + 0) := Lib.hid (by simp)
  have HW0 := Lib.hid (bal (brf w) (Obj.cells (padV [] n).toArray 72))
  clear hmk
  go_loopw [6] (fun yv wr => ∃ (y : Nat), y ≤ n ∧ yv = .int .i64 y ∧ Hid (Blk wr w.heap.size 72 (padV (rowsA w.heap.size y n) n).toArray) ∧ Hid (∀ i, i < y → Blk wr (w.heap.size + 1 + i) 73 (i8v (List.replicate n false)).toArray) ∧ Hid (wr.heap.size = w.heap.size + 1 + y) ∧ Hid (Below w.heap.size w wr)) (fun yv _ => n - (intOf yv).toNat)
  case atStart => exact ⟨0, Nat.zero_le _, rfl, HG0, Lib.hid (fun i hi => absurd hi (Nat.not_lt_zero _)), HS0, HW0⟩
  case round =>
    clear HG0 HW0 HS0
    obtain ⟨y, hy, rfl, HG, HR, HS, HW⟩ := hrel
    by_cases hlt : y < n
    · have HGa := HG.out.alloc (.cells (i8v (List.replicate n false)).toArray 73)
      have hpa := padV_at (rowsA w.heap.size y n) n (by rw [rowsA_len]; exact hlt)
      rw [rowsA_len] at hpa
      have cG : (wr.alloc (.cells (i8v (List.replicate n false)).toArray 73)).cell? ⟨w.heap.size, y, none⟩ = some (.slice none 0 0) := by
        rw [HGa.cell]; exact hpa
      have fG : (wr.alloc (.cells (i8v (List.replicate n false)).toArray 73)).frozen? ⟨w.heap.size, y, none⟩ = false := HGa.frozen _
      obtain ⟨wm, hwm⟩ : ∃ wm, wm = (wr.alloc (.cells (i8v (List.replicate n false)).toArray 73)).setCell ⟨w.heap.size, y, none⟩ (.slice (some ⟨wr.heap.size, 0, none⟩) n n) := ⟨_, rfl⟩
      have hps := padV_set (rowsA w.heap.size y n) n (.slice (some ⟨wr.heap.size, 0, none⟩) n n) (by rw [rowsA_len]; exact hlt)
      rw [rowsA_len] at hps
      have HGn : Hid (Blk wm w.heap.size 72 (padV (rowsA w.heap.size (y + 1) n) n).toArray) := Lib.hid (by
        rw [hwm, rowsA_succ, ← HS.out, ← hps]; exact (HG.out.alloc _).put _ _)
      have HRn : Hid (∀ i, i < y + 1 → Blk wm (w.heap.size + 1 + i) 73 (i8v (List.replicate n false)).toArray) := Lib.hid (fun i hi => by
        rw [hwm]
        by_cases hiy : i < y
        · exact ((HR.out i hiy).alloc _).far (p := ⟨w.heap.size, y, none⟩) (by simp; omega) _
        · rw [show i = y by omega, ← HS.out]
          exact (Blk.fresh wr _ _).far (p := ⟨w.heap.size, y, none⟩) (by simp; have := HS.out; omega) _)
      have HSn : Hid (wm.heap.size = w.heap.size + 1 + (y + 1)) := Lib.hid (by rw [hwm]; simp; have := HS.out; omega)
      have HWn : Hid (Below w.heap.size w wm) := Lib.hid (by rw [hwm]; exact (bal HW.out _).setCell (p := ⟨w.heap.size, y, none⟩) (Nat.le_refl _) _)
      have HWM := Lib.hid hwm.symm
      clear HGa hpa hps hwm HG HR HS HW
      go_wp2
      rw [HWM.out]
      clear cG fG
      go_roundw
      case rel => exact ⟨y + 1, by omega, by go_num, HGn, HRn, HSn, HWn⟩
      case measure => simp [intOf]; omega
    · obtain rfl : y = n := by omega
      have hpf : padV (rowsA w.heap.size y y) y = rowsA w.heap.size y y := by
        have := padV_full (rowsA w.heap.size y y); rwa [rowsA_len] at this
      have hx := HG.out
      rw [hpf] at hx
      have HX := Lib.hid hx
      clear hpf hx HG
      go_wp2
      go_ret
      refine ⟨_, rfl, ⟨Blk.fresh' (by simp), HX.out.alloc _, fun i hi => ?_, by have := HS.out; omega⟩, bal HW.out _⟩
      rw [rowF_false]
      exact (HR.out i hi).alloc _
theorem i8v_setb (l : List Bool) (i : Nat) (b : Bool) : (i8v l).toArray.setIfInBounds i (.int .i8 (if b = true then 1 else 0)) = (i8v (l.set i b)).toArray := by simp [i8v, List.map_set]
/-- One cell changed. -/
def putF (f : Nat → Nat → Bool) (x y : Nat) (b : Bool) (a c : Nat) : Bool := if a = x ∧ c = y then b else f a c
theorem rowF_put (n : Nat) (f : Nat → Nat → Bool) (x y : Nat) (b : Bool) : (rowF n f y).set x b = rowF n (putF f x y b) y := by
  apply List.ext_getElem
  · rw [List.length_set, rowF_len, rowF_len]
  · intro j h1 h2
    rw [List.getElem_set, rowF_at, rowF_at]
    unfold putF
    by_cases h : x = j
    · rw [if_pos h, if_pos ⟨h.symm, rfl⟩]
    · rw [if_neg h, if_neg (fun hh => h hh.1.symm)]
theorem rowF_other (n : Nat) (f : Nat → Nat → Bool) (x y i : Nat) (b : Bool) (h : i ≠ y) : rowF n (putF f x y b) i = rowF n f i := by
  apply List.ext_getElem
  · rw [rowF_len, rowF_len]
  · intro j h1 h2
    rw [rowF_at, rowF_at]
    unfold putF
    rw [if_neg (fun hh => h hh.2)]
theorem ByteM.put {w : World} {p g n : Nat} {f : Nat → Nat → Bool} (h : ByteM w p g n f) (x y : Nat) (hy : y < n) (b : Bool) : ByteM (w.setCell ⟨g + 1 + y, x, none⟩ (.int .i8 (if b = true then 1 else 0))) p g n (putF f x y b) := by
  have hap := h.apart
  refine ⟨h.head.far (p := ⟨g + 1 + y, x, none⟩) (by simp; omega) _, h.rows.far (p := ⟨g + 1 + y, x, none⟩) (by simp; omega) _, fun i hi => ?_, h.apart⟩
  by_cases hiy : i = y
  · subst hiy
    rw [← rowF_put, ← i8v_setb]
    exact (h.row i hi).put _ _
  · rw [rowF_other _ _ _ _ _ _ hiy]
    exact (h.row i hi).far (p := ⟨g + 1 + y, x, none⟩) (by simp; omega) _
theorem ByteM.cell {w : World} {p g n : Nat} {f : Nat → Nat → Bool} (h : ByteM w p g n f) (x y : Nat) (hx : x < n) (hy : y < n) : w.cell? ⟨g + 1 + y, x, none⟩ = some (.int .i8 (if f x y = true then 1 else 0)) := by
  rw [(h.row y hy).cell, List.getElem?_toArray, i8v_cell _ _ (by rw [rowF_len]; exact hx), rowF_getD _ _ _ _ hx]
theorem ByteM.rows_ {w : World} {p g n : Nat} {f : Nat → Nat → Bool} (h : ByteM w p g n f) (hn : n ≤ 60) : RowsV w 72 73 (.slice (some ⟨g, 0, none⟩) n n) n (fun i => i8v (rowF n f i)) := by
  have hm : n ≤ maxLen := by unfold maxLen; omega
  refine ⟨rowsA g n n, RdT.of_blk h.rows (rowsA_len _ _ _).symm (by rw [rowsA_len]; exact Nat.le_refl _) hm, rowsA_len _ _ _, fun i hi => ?_⟩
  rw [List.getD, rowsA_at _ _ _ _ hi, Option.getD_some]
  exact RdT.of_blk (h.row i hi) (by rw [i8v_len, rowF_len]) (by rw [i8v_len, rowF_len]; exact Nat.le_refl _) hm
theorem byteSet_any (p g n x y : Nat) (f : Nat → Nat → Bool) (b : Bool) (z : Int) (w : World) (h : ByteM w p g n f) (hz : z = if b = true then 1 else 0) (hx : x < n) (hy : y < n) :
    Calls Try.prog 37 #[.pointer (some ⟨p, 0, none⟩), .int .i64 (x : Int), .int .i64 (y : Int), .int .i8 z] w fun e w' => ∃ j, e = .returned (.tuple #[]) ∧ w' = w.setCell ⟨g + 1 + y, j, none⟩ (.int .i8 z) ∧ ByteM w' p g n (putF f x y b) := by
  have c0 : w.cell? ⟨p, 0, none⟩ = some (.slice (some ⟨g, 0, none⟩) n n) := by rw [h.head.cell]; rfl
  have c1 : w.cell? ⟨g, y, none⟩ = some (.slice (some ⟨g + 1 + y, 0, none⟩) n n) := by rw [h.rows.cell, List.getElem?_toArray, rowsA_at _ _ _ _ hy]
  have c2 := h.cell x y hx hy
  have f2 := (h.row y hy).frozen x
  have HP := Lib.hid (h.put x y hy b)
  rw [← hz] at HP
  clear h hz
  generalize (if f x y = true then (1 : Int) else 0) = q at *
  generalize g + 1 + y = r at *
  go_enter Try.func37, Try.ntmps37
  go_wp2
  refine bodyPost_end (results_none rfl _ _ _) rfl ?_
  exact ⟨x, rfl, rfl, HP.out⟩
theorem byteArray_any (p g n : Nat) (f : Nat → Nat → Bool) (w : World) (h : ByteM w p g n f) :
    Calls Try.prog 74 #[.pointer (some ⟨p, 0, none⟩)] w fun e w' => e = .returned (.slice (some ⟨g, 0, none⟩) n n) ∧ w' = w := by
  have c0 : w.cell? ⟨p, 0, none⟩ = some (.slice (some ⟨g, 0, none⟩) n n) := by rw [h.head.cell]; rfl
  clear h
  go_enter Try.func74, Try.ntmps74
  go_wp2
  go_ret
  exact ⟨rfl, rfl⟩
theorem byteWidth_any (p g n : Nat) (f : Nat → Nat → Bool) (w : World) (h : ByteM w p g n f) :
    Calls Try.prog 75 #[.pointer (some ⟨p, 0, none⟩)] w fun e w' => e = .returned (.int .i64 n) ∧ w' = w := by
  have c0 : w.cell? ⟨p, 1, none⟩ = some (.int .i64 n) := by rw [h.head.cell]; rfl
  clear h
  go_enter Try.func75, Try.ntmps75
  go_wp2
  go_ret
  exact ⟨rfl, rfl⟩
theorem byteHeight_any (p g n : Nat) (f : Nat → Nat → Bool) (w : World) (h : ByteM w p g n f) :
    Calls Try.prog 76 #[.pointer (some ⟨p, 0, none⟩)] w fun e w' => e = .returned (.int .i64 n) ∧ w' = w := by
  have c0 : w.cell? ⟨p, 2, none⟩ = some (.int .i64 n) := by rw [h.head.cell]; rfl
  clear h
  go_enter Try.func76, Try.ntmps76
  go_wp2
  go_ret
  exact ⟨rfl, rfl⟩
end Go.Proofs.Ytibnfgmhnmkfeaa
