/-
  WALKS: a BitArray is made of bits.
-/
import Derived.Test.YtjhfebhefclenaaBa
import Derived.Test.YtjhfebhefclenaaArgs
namespace Go.Proofs.Ytjhfebhefclenaa
open Go.RowKit

/-- The words of the first k bits. -/
def setBits (n : Nat) (l : List Bool) : Nat → List Nat
  | 0 => List.replicate n 0
  | k + 1 => if l.getD k false = true then setW (setBits n l k) k else setBits n l k
def wordsOf (l : List Bool) : List Nat := setBits ((l.length + 31) / 32) l l.length
theorem setBits_len (n : Nat) (l : List Bool) (k : Nat) : (setBits n l k).length = n := by
  induction k with
  | zero => simp [setBits]
  | succ k ih => unfold setBits; split <;> simp [setW_len, ih]
theorem setBits_lt (n : Nat) (l : List Bool) (k : Nat) : ∀ x ∈ setBits n l k, x < 4294967296 := by
  induction k with
  | zero => intro x hx; rw [setBits] at hx; rw [List.eq_of_mem_replicate hx]; decide
  | succ k ih =>
    unfold setBits
    split
    · exact setW_lt ih
    · exact ih
theorem setW_bit (ws : List Nat) (k i : Nat) (hk : k / 32 < ws.length) : ((setW ws k).getD (i / 32) 0).testBit (i % 32) = (((ws.getD (i / 32) 0).testBit (i % 32)) || decide (k = i)) := by
  unfold setW
  by_cases h : k / 32 = i / 32
  · rw [List.getD, h, List.getElem?_set_self (by omega), Option.getD_some, Nat.testBit_or, Nat.testBit_two_pow]
    congr 1
    rw [Bool.eq_iff_iff]; simp; omega
  · rw [List.getD, List.getElem?_set_ne h, List.getD]
    have : decide (k = i) = false := by simp; omega
    rw [this, Bool.or_false]
theorem setBits_bit (n : Nat) (l : List Bool) (k i : Nat) (hk : k ≤ 32 * n) : ((setBits n l k).getD (i / 32) 0).testBit (i % 32) = (decide (i < k) && l.getD i false) := by
  induction k with
  | zero =>
    rw [setBits, List.getD]
    rcases Nat.lt_or_ge (i / 32) n with h | h
    · rw [List.getElem?_replicate_of_lt h]; simp
    · rw [List.getElem?_eq_none (by simpa using h)]; simp
  | succ k ih =>
    have ih' := ih (by omega)
    unfold setBits
    split
    · rename_i hb
      rw [setW_bit _ _ _ (by rw [setBits_len]; omega), ih']
      by_cases hik : k = i
      · subst hik; rw [hb]; simp
      · have : decide (i < k + 1) = decide (i < k) := by rw [Bool.eq_iff_iff]; simp; omega
        rw [this]; simp [hik]
    · rename_i hb
      rw [ih']
      by_cases hik : k = i
      · subst hik; rw [Bool.not_eq_true] at hb; rw [hb]; simp
      · have : decide (i < k + 1) = decide (i < k) := by rw [Bool.eq_iff_iff]; simp; omega
        rw [this]
theorem wordsOf_bit (l : List Bool) (i : Nat) (h : i < l.length) : ((wordsOf l).getD (i / 32) 0).testBit (i % 32) = l.getD i false := by
  unfold wordsOf
  rw [setBits_bit _ _ _ _ (by omega)]
  simp [h]

theorem makeArray_any (size : Nat) (w : World) (hs : size ≤ 2147483647) :
    Calls Try.prog 30 #[.int .i64 size] w fun e w' => e = .returned (.slice (some ⟨w.heap.size, 0, none⟩) ((size + 31) / 32) ((size + 31) / 32)) ∧
      Blk w' w.heap.size 47 (wv (List.replicate ((size + 31) / 32) 0)).toArray ∧ Below w.heap.size w w' := by
  have hmk := run_mk (P := Try.prog) 51 47 (.int .u32 0) 4 Try.underlying51 (by kernel_rfl) rfl ((size + 31) / 32) (by omega) (by omega) w
  have hX := Blk.fresh w 47 (rep ((size + 31) / 32) (.int .u32 0))
  have hB := bal (brf w) (.cells (rep ((size + 31) / 32) (.int .u32 0)) 47)
  rw [wv_rep]
  generalize rep ((size + 31) / 32) (.int .u32 0) = z at *
  have hdiv : ((size : Int) + 31) / 32 = (((size + 31) / 32 : Nat) : Int) := by omega
  have hn : (size + 31) / 32 ≤ 100000000 := by omega
  generalize (size + 31) / 32 = n at *
  generalize (w.alloc (.cells z 47)) = w1 at *
  go_enter Try.func30, Try.ntmps30
  go_wp2
  go_ret
  exact ⟨rfl, hX, hB⟩

theorem newArray_any (size : Nat) (w : World) (hs : size ≤ 2147483647) :
    Calls Try.prog 24 #[.int .i64 size] w fun e w' => ∃ p g, e = .returned (.pointer (some ⟨p, 0, none⟩)) ∧
      BitAt w' p g (List.replicate ((size + 31) / 32) 0) size ∧ w.heap.size ≤ p ∧ w.heap.size ≤ g ∧ Below w.heap.size w w' := by
  go_enter Try.func24, Try.ntmps24
  go_wp2_with fail
  refine (makeArray_any size w hs).mono ?_
  rintro e w1 ⟨rfl, hX, hB⟩
  have hlt := hX.lt
  go_wp2
  go_ret
  refine ⟨_, _, rfl, ⟨?_, hX.alloc _, ?_, by simp, by omega⟩, hB.size, Nat.le_refl _, bal hB _⟩
  · rw [List.length_replicate]; exact Blk.fresh w1 _ _
  · intro x hx; rw [List.eq_of_mem_replicate hx]; decide
end Go.Proofs.Ytjhfebhefclenaa
