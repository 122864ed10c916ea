/-
  WALKS: gozxing.BitArray: its words told by a list of numbers.
-/
import Derived.Test.YtjhfebhefclenaaU32
namespace Go.Proofs.Ytjhfebhefclenaa
open Go.RowKit

/-- Pointer p is a BitArray of so many bits; its words are ws, in block g. -/
structure BitAt (w : World) (p g : Nat) (ws : List Nat) (size : Nat) : Prop where
  head : Blk w p 53 #[.slice (some ⟨g, 0, none⟩) ws.length ws.length, .int .i64 size]
  rows : Blk w g 47 (wv ws).toArray
  lt : ∀ x ∈ ws, x < 4294967296
  len : ws.length = (size + 31) / 32
  apart : p ≠ g
theorem BitAt.up {w w' : World} {p g : Nat} {ws : List Nat} {size : Nat} (h : BitAt w p g ws size) (hb : Below w.heap.size w w') : BitAt w' p g ws size :=
  ⟨h.head.up hb, h.rows.up hb, h.lt, h.len, h.apart⟩

theorem get_any (p g : Nat) (ws : List Nat) (size i : Nat) (w : World) (h : BitAt w p g ws size) (hi : i < size) (hs : size ≤ 2147483647) :
    Calls Try.prog 27 #[.pointer (some ⟨p, 0, none⟩), .int .i64 i] w fun e w' => e = .returned (.bool ((ws.getD (i / 32) 0).testBit (i % 32))) ∧ w' = w := by
  have hl := h.len
  have hlt : i / 32 < ws.length := by omega
  have c0 : w.cell? ⟨p, 0, none⟩ = some (.slice (some ⟨g, 0, none⟩) ws.length ws.length) := by rw [h.head.cell]; rfl
  have c1 : w.cell? ⟨g, i / 32, none⟩ = some (.int .u32 ((ws[i / 32] : Nat) : Int)) := by rw [h.rows.cell, wv_at _ _ hlt]
  have hx := h.lt _ (List.getElem_mem hlt)
  have hg : ws.getD (i / 32) 0 = ws[i / 32] := by rw [List.getD, List.getElem?_eq_getElem hlt]; rfl
  rw [hg]
  clear hg h
  generalize ws[i / 32] = x at *
  have e1 : bits .and .u32 (x : Int) ((2 : Int) ^ (i % 32) % 4294967296) = ((x &&& 2 ^ (i % 32) : Nat) : Int) := by
    rw [pow32 _ (Nat.mod_lt _ (by decide))]
    exact u32_and _ _ hx (Nat.pow_lt_pow_right (n := 32) (by decide) (Nat.mod_lt _ (by decide)))
  have e2 := bit_and x (i % 32)
  generalize (x &&& 2 ^ (i % 32)) = y at *
  generalize ws.length = n at *
  go_enter Try.func27, Try.ntmps27
  go_wp2
  go_ret
  exact ⟨rfl, rfl⟩
/-- The words in which bit i is set. -/
def setW (ws : List Nat) (i : Nat) : List Nat := ws.set (i / 32) (ws.getD (i / 32) 0 ||| 2 ^ (i % 32))
theorem setW_len (ws : List Nat) (i : Nat) : (setW ws i).length = ws.length := by simp [setW]
theorem setW_lt {ws : List Nat} {i : Nat} (h : ∀ x ∈ ws, x < 4294967296) : ∀ x ∈ setW ws i, x < 4294967296 := by
  intro x hx
  rcases List.mem_or_eq_of_mem_set hx with hx | hx
  · exact h x hx
  · rw [hx]
    have h1 : ws.getD (i / 32) 0 < 2 ^ 32 := by
      rw [List.getD]
      rcases Nat.lt_or_ge (i / 32) ws.length with hl | hl
      · rw [List.getElem?_eq_getElem hl]; exact h _ (List.getElem_mem hl)
      · rw [List.getElem?_eq_none hl]; decide
    exact Nat.or_lt_two_pow h1 (Nat.pow_lt_pow_right (n := 32) (by decide) (Nat.mod_lt _ (by decide)))
theorem set_any (p g : Nat) (ws : List Nat) (size i : Nat) (w : World) (h : BitAt w p g ws size) (hi : i < size) (hs : size ≤ 2147483647) :
    Calls Try.prog 13 #[.pointer (some ⟨p, 0, none⟩), .int .i64 i] w fun e w' => e = .returned (.tuple #[]) ∧ BitAt w' p g (setW ws i) size ∧ w' = w.setCell ⟨g, i / 32, none⟩ (.int .u32 ((ws.getD (i / 32) 0 ||| 2 ^ (i % 32) : Nat) : Int)) := by
  have hl := h.len
  have hlt : i / 32 < ws.length := by omega
  have c0 : w.cell? ⟨p, 0, none⟩ = some (.slice (some ⟨g, 0, none⟩) ws.length ws.length) := by rw [h.head.cell]; rfl
  have c1 : w.cell? ⟨g, i / 32, none⟩ = some (.int .u32 ((ws[i / 32] : Nat) : Int)) := by rw [h.rows.cell, wv_at _ _ hlt]
  have f1 := h.rows.frozen (i / 32)
  have hx := h.lt _ (List.getElem_mem hlt)
  have hg : ws.getD (i / 32) 0 = ws[i / 32] := by rw [List.getD, List.getElem?_eq_getElem hlt]; rfl
  have hB : BitAt (w.setCell ⟨g, i / 32, none⟩ (.int .u32 ((ws.getD (i / 32) 0 ||| 2 ^ (i % 32) : Nat) : Int))) p g (setW ws i) size :=
    ⟨by rw [setW_len]; exact h.head.far h.apart _, by rw [setW, ← wv_set]; exact h.rows.put _ _, setW_lt h.lt, by rw [setW_len]; exact h.len, h.apart⟩
  have HB := Lib.hid hB
  rw [hg] at HB ⊢
  clear hB hg h
  generalize ws[i / 32] = x at *
  have e1 : bits .or .u32 (x : Int) ((2 : Int) ^ (i % 32) % 4294967296) = ((x ||| 2 ^ (i % 32) : Nat) : Int) := by
    rw [pow32 _ (Nat.mod_lt _ (by decide))]
    exact u32_or _ _ hx (Nat.pow_lt_pow_right (n := 32) (by decide) (Nat.mod_lt _ (by decide)))
  generalize (x ||| 2 ^ (i % 32)) = y at *
  generalize ws.length = n at *
  go_enter Try.func13, Try.ntmps13
  go_wp2
  refine bodyPost_end (results_none rfl _ _ _) rfl ?_
  exact ⟨rfl, HB.out, rfl⟩
end Go.Proofs.Ytjhfebhefclenaa
