/-
  WALKS: gozxing.BitMatrix: its words told by a list of numbers.
-/
import Derived.Test.YtcldipbboidjbaaU32
namespace Go.Proofs.Ytcldipbboidjbaa
open Go.RowKit

/-- The bit at column x and row y of words, rs of them a row. -/
def bitM (ws : List Nat) (rs x y : Nat) : Bool := (ws.getD (y * rs + x / 32) 0).testBit (x % 32)
/-- The words in which that bit is set. -/
def setM (ws : List Nat) (rs x y : Nat) : List Nat := ws.set (y * rs + x / 32) (ws.getD (y * rs + x / 32) 0 ||| 2 ^ (x % 32))
theorem setM_len (ws : List Nat) (rs x y : Nat) : (setM ws rs x y).length = ws.length := by simp [setM]
theorem setM_lt {ws : List Nat} {rs x y : Nat} (h : ∀ v ∈ ws, v < 4294967296) : ∀ v ∈ setM ws rs x y, v < 4294967296 := by
  intro v hv
  rcases List.mem_or_eq_of_mem_set hv with hv | hv
  · exact h v hv
  · rw [hv]
    have h1 : ws.getD (y * rs + x / 32) 0 < 2 ^ 32 := by
      rw [List.getD]
      rcases Nat.lt_or_ge (y * rs + x / 32) ws.length with hl | hl
      · rw [List.getElem?_eq_getElem hl]; exact h _ (List.getElem_mem hl)
      · rw [List.getElem?_eq_none hl]; decide
    exact Nat.or_lt_two_pow h1 (Nat.pow_lt_pow_right (n := 32) (by decide) (Nat.mod_lt _ (by decide)))
theorem place_inj {rs x y a b : Nat} (hx : x / 32 < rs) (ha : a / 32 < rs) (h : y * rs + x / 32 = b * rs + a / 32) : y = b ∧ x / 32 = a / 32 := by
  have h1 : (y * rs + x / 32) / rs = y := by rw [Nat.mul_comm, Nat.mul_add_div (by omega), Nat.div_eq_of_lt hx, Nat.add_zero]
  have h2 : (b * rs + a / 32) / rs = b := by rw [Nat.mul_comm, Nat.mul_add_div (by omega), Nat.div_eq_of_lt ha, Nat.add_zero]
  have h3 : y = b := by rw [← h1, ← h2, h]
  subst h3
  exact ⟨rfl, by omega⟩
theorem place_lt {rs x y H : Nat} (hx : x / 32 < rs) (hy : y < H) : y * rs + x / 32 < rs * H := by
  have h1 : (y + 1) * rs ≤ H * rs := Nat.mul_le_mul_right rs hy
  rw [Nat.add_mul, Nat.one_mul] at h1
  rw [Nat.mul_comm rs H]; omega
theorem setM_bit (ws : List Nat) (rs x y a b H : Nat) (hn : ws.length = rs * H) (hx : x / 32 < rs) (hy : y < H) (ha : a / 32 < rs) : bitM (setM ws rs x y) rs a b = (bitM ws rs a b || (decide (a = x) && decide (b = y))) := by
  unfold bitM setM
  by_cases h : y * rs + x / 32 = b * rs + a / 32
  · obtain ⟨h1, h2⟩ := place_inj hx ha h
    have hp := place_lt hx hy
    rw [List.getD, ← h, List.getElem?_set_self (by omega), Option.getD_some, Nat.testBit_or, Nat.testBit_two_pow]
    congr 1
    rw [Bool.eq_iff_iff]; simp; omega
  · rw [List.getD, List.getElem?_set_ne h, List.getD]
    have : (decide (a = x) && decide (b = y)) = false := by
      rw [Bool.and_eq_false_iff, decide_eq_false_iff_not, decide_eq_false_iff_not]
      by_cases h1 : a = x
      · right; intro h2; subst h1 h2; exact h rfl
      · exact .inl h1
    rw [this, Bool.or_false]
/-- Pointer p is a BitMatrix, W wide and H high; its words are ws, in block g. -/
structure MatW (w : World) (p g W H : Nat) (ws : List Nat) : Prop where
  head : Blk w p 171 #[.int .i64 W, .int .i64 H, .int .i64 ((W + 31) / 32 : Nat), .slice (some ⟨g, 0, none⟩) ws.length ws.length]
  rows : Blk w g 172 (wv ws).toArray
  lt : ∀ x ∈ ws, x < 4294967296
  len : ws.length = (W + 31) / 32 * H
  apart : p ≠ g
theorem MatW.up {w w' : World} {p g W H : Nat} {ws : List Nat} (h : MatW w p g W H ws) (hb : Below w.heap.size w w') : MatW w' p g W H ws :=
  ⟨h.head.up hb, h.rows.up hb, h.lt, h.len, h.apart⟩
/-- Its bits are f. -/
def MatAt (w : World) (p g W H : Nat) (f : Nat → Nat → Bool) : Prop := ∃ ws, MatW w p g W H ws ∧ ∀ x y, x < W → y < H → bitM ws ((W + 31) / 32) x y = f x y
theorem MatAt.up {w w' : World} {p g W H : Nat} {f : Nat → Nat → Bool} (h : MatAt w p g W H f) (hb : Below w.heap.size w w') : MatAt w' p g W H f := by
  obtain ⟨ws, h1, h2⟩ := h; exact ⟨ws, h1.up hb, h2⟩

theorem shr_bit (x k : Nat) : (((x / 2 ^ k % 2 : Nat) : Int) != 0) = x.testBit k := by
  rw [Nat.testBit_eq_decide_div_mod_eq]
  rcases Nat.mod_two_eq_zero_or_one (x / 2 ^ k) with h | h <;> rw [h] <;> rfl
theorem matGet_any (p g W H x y : Nat) (f : Nat → Nat → Bool) (w : World) (h : MatAt w p g W H f) (hx : x < W) (hy : y < H) (hW : W ≤ 4096) (hH : H ≤ 4096) :
    Calls Try.prog 83 #[.pointer (some ⟨p, 0, none⟩), .int .i64 x, .int .i64 y] w fun e w' => e = .returned (.bool (f x y)) ∧ w' = w := by
  obtain ⟨ws, h, hf⟩ := h
  have hr : x / 32 < (W + 31) / 32 := by omega
  have hpl := place_lt hr hy
  rw [← h.len] at hpl
  have hbit : (ws[y * ((W + 31) / 32) + x / 32]).testBit (x % 32) = f x y := by
    rw [← hf x y hx hy, bitM, List.getD, List.getElem?_eq_getElem hpl]; rfl
  have c0 : w.cell? ⟨p, 0, none⟩ = some (.int .i64 W) := by rw [h.head.cell]; rfl
  have c1 : w.cell? ⟨p, 1, none⟩ = some (.int .i64 H) := by rw [h.head.cell]; rfl
  have c2 : w.cell? ⟨p, 2, none⟩ = some (.int .i64 ((W + 31) / 32 : Nat)) := by rw [h.head.cell]; rfl
  have c3 : w.cell? ⟨p, 3, none⟩ = some (.slice (some ⟨g, 0, none⟩) ws.length ws.length) := by rw [h.head.cell]; rfl
  have c4 : w.cell? ⟨g, y * ((W + 31) / 32) + x / 32, none⟩ = some (.int .u32 ((ws[y * ((W + 31) / 32) + x / 32] : Nat) : Int)) := by rw [h.rows.cell, wv_at _ _ hpl]
  have hv := h.lt _ (List.getElem_mem hpl)
  have hlen : ws.length ≤ 129 * 4096 := by rw [h.len]; exact Nat.mul_le_mul (by omega) hH
  generalize ws[y * ((W + 31) / 32) + x / 32] = v at *
  generalize ws.length = n at *
  clear h hf
  have hrs : (W + 31) / 32 ≤ 129 := by omega
  generalize (W + 31) / 32 = rs at *
  have e1 : (y : Int) * (rs : Int) = ((y * rs : Nat) : Int) := by simp
  generalize y * rs = m at *
  rw [← hbit]
  clear hbit
  have e2 := shr_bit v (x % 32)
  have e3 : bits .and .u32 ((v : Int) / (2 : Int) ^ (x % 32)) 1 = ((v / 2 ^ (x % 32) % 2 : Nat) : Int) := by
    have h1 : v / 2 ^ (x % 32) ≤ v := Nat.div_le_self _ _
    have h2 := u32_and (v / 2 ^ (x % 32)) 1 (by omega) (by decide)
    rw [Nat.and_one_is_mod] at h2
    rw [← h2]; congr 1
  go_enter Try.func83, Try.ntmps83
  go_wp2
  go_ret
  exact ⟨ret_bool (by rw [← e2]; first | rfl | rw [e3]), rfl⟩
end Go.Proofs.Ytcldipbboidjbaa
