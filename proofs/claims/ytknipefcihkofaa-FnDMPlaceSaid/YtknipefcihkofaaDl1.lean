/-
  PLAIN: the sizes of Data Matrix symbols, and that the placement goes well for each.
-/
import Derived.Test.YtknipefcihkofaaDg
import Derived.Test.YtknipefcihkofaaDp6
import Derived.Test.YtknipefcihkofaaDs6
namespace Go.Proofs.Ytknipefcihkofaa
open Go.RowKit

def szL : List (List Nat) := [[10, 10, 8, 8, 3, 5, 1], [12, 12, 10, 10, 5, 7, 1], [8, 18, 6, 16, 5, 7, 1], [14, 14, 12, 12, 8, 10, 1], [8, 32, 6, 14, 10, 11, 1], [16, 16, 14, 14, 12, 12, 1],
  [12, 26, 10, 24, 16, 14, 1], [18, 18, 16, 16, 18, 14, 1], [20, 20, 18, 18, 22, 18, 1], [12, 36, 10, 16, 22, 18, 1], [22, 22, 20, 20, 30, 20, 1], [16, 36, 14, 16, 32, 24, 1],
  [24, 24, 22, 22, 36, 24, 1], [26, 26, 24, 24, 44, 28, 1], [16, 48, 14, 22, 49, 28, 1], [32, 32, 14, 14, 62, 36, 1], [36, 36, 16, 16, 86, 42, 1], [40, 40, 18, 18, 114, 48, 1],
  [44, 44, 20, 20, 144, 56, 1], [48, 48, 22, 22, 174, 68, 1], [52, 52, 24, 24, 204, 84, 2], [64, 64, 14, 14, 280, 112, 2], [72, 72, 16, 16, 368, 144, 4], [80, 80, 18, 18, 456, 192, 4],
  [88, 88, 20, 20, 576, 224, 4], [96, 96, 22, 22, 696, 272, 4], [104, 104, 24, 24, 816, 336, 6], [120, 120, 18, 18, 1050, 408, 6], [132, 132, 20, 20, 1304, 496, 8], [144, 144, 22, 22, 1558, 620, 10]]
def szA (k j : Nat) : Nat := (szL.getD k []).getD j 0
def mapR (k : Nat) : Nat := szA k 0 / (szA k 2 + 2) * szA k 2
def mapC (k : Nat) : Nat := szA k 1 / (szA k 3 + 2) * szA k 3
def wordsN (k : Nat) : Nat := szA k 4 + szA k 5
theorem sz_bd : ∀ k, k < 30 → (∀ j, j < 7 → szA k j ≤ 2000) ∧ 6 ≤ mapR k ∧ mapR k ≤ 200 ∧ 6 ≤ mapC k ∧ mapC k ≤ 200 ∧ 0 < wordsN k ∧ wordsN k ≤ 3000 := by decide +kernel
theorem goes_all (k : Nat) (h : k < 30) : goesB (mapR k) (mapC k) (wordsN k) = true := by
  have hk : k = 0 ∨ k = 1 ∨ k = 2 ∨ k = 3 ∨ k = 4 ∨ k = 5 ∨ k = 6 ∨ k = 7 ∨ k = 8 ∨ k = 9 ∨ k = 10 ∨ k = 11 ∨ k = 12 ∨ k = 13 ∨ k = 14 ∨ k = 15 ∨ k = 16 ∨ k = 17 ∨ k = 18 ∨ k = 19 ∨ k = 20 ∨ k = 21 ∨ k = 22 ∨ k = 23 ∨ k = 24 ∨ k = 25 ∨ k = 26 ∨ k = 27 ∨ k = 28 ∨ k = 29 := by omega
  rcases hk with rfl | rfl | rfl | rfl | rfl | rfl | rfl | rfl | rfl | rfl | rfl | rfl | rfl | rfl | rfl | rfl | rfl | rfl | rfl | rfl | rfl | rfl | rfl | rfl | rfl | rfl | rfl | rfl | rfl | rfl
  · exact goes_k0
  · exact goes_k1
  · exact goes_k2
  · exact goes_k3
  · exact goes_k4
  · exact goes_k5
  · exact goes_k6
  · exact goes_k7
  · exact goes_k8
  · exact goes_k9
  · exact goes_k10
  · exact goes_k11
  · exact goes_k12
  · exact goes_k13
  · exact goes_k14
  · exact goes_k15
  · exact goes_k16
  · exact goes_k17
  · exact goes_k18
  · exact goes_k19
  · exact goes_k20
  · exact goes_k21
  · exact goes_k22
  · exact goes_k23
  · exact goes_k24
  · exact goes_k25
  · exact goes_k26
  · exact goes_k27
  · exact goes_k28
  · exact goes_k29
theorem idx_inj {cols y x y' x' : Nat} (h : y * cols + x = y' * cols + x') (hx : x < cols) (hx' : x' < cols) : y = y' ∧ x = x' := by
  rcases Nat.lt_trichotomy y y' with h1 | h1 | h1
  · have := Nat.mul_le_mul_right cols (show y + 1 ≤ y' by omega)
    rw [Nat.add_mul] at this; omega
  · subst h1; exact ⟨rfl, by omega⟩
  · have := Nat.mul_le_mul_right cols (show y' + 1 ≤ y by omega)
    rw [Nat.add_mul] at this; omega
theorem cell_bit {ws : List UInt8} {v : Int} (h : 0 ≤ v) : (cellM ws v == 1) = decide ((ws.getD (v.toNat / 8) 0).toNat / 2 ^ (7 - v.toNat % 8) % 2 = 1) := by
  unfold cellM
  rw [if_neg (by omega)]
  by_cases hb : (ws.getD (v.toNat / 8) 0).toNat / 2 ^ (7 - v.toNat % 8) % 2 = 1
  · rw [if_pos hb, decide_eq_true hb]; rfl
  · rw [if_neg hb, decide_eq_false hb]; rfl
theorem placed {rows cols n : Nat} (hR : 6 ≤ rows) (hC : 6 ≤ cols) (hn : 0 < n) (h : goesB rows cols n = true) : ∃ k Me, sweepG modHas modSet n rows cols (rows + cols) 4 0 (0, fun _ => -1) = some (k, Me) ∧ (∀ i, -1 ≤ Me i ∧ Me i < 8 * n) ∧
    ∀ ws : List UInt8, rowsF cols rows (fun x y => lastD ws rows cols Me (y * cols + x) == 1) = rowsF cols rows (specF ws rows cols Me) := by
  unfold goesB at h
  cases hs : sweepG mskHas mskSet n rows cols (rows + cols) 4 0 (0, 0) with
  | none => rw [hs] at h; cases h
  | some s =>
    rw [hs] at h
    simp only at h
    obtain ⟨k, m⟩ := s
    simp only at h
    obtain ⟨Me, hm, ha, hb⟩ := sweep_sim (n := n) (rows := rows) (cols := cols) _ _ _ _ _ (fun _ => -1) _ _ ⟨fun i _ => by simp [modHas], fun i => ⟨Int.le_refl _, by show (-1 : Int) < 8 * (n : Int); omega⟩⟩ hs
    refine ⟨k, Me, hm, hb, fun ws => ?_⟩
    unfold rowsF
    apply List.map_congr_left
    intro y hy
    rw [List.mem_range] at hy
    apply List.map_congr_left
    intro x hx
    rw [List.mem_range] at hx
    have hi := mul_lt hy hx
    have hai := ha _ hi
    unfold specF
    have hhas : ∀ i, modHas Me i = true → 0 ≤ Me i := fun i hh => by unfold modHas at hh; simpa using hh
    have hnot : ∀ i, modHas Me i = false → Me i < 0 := fun i hh => by unfold modHas at hh; simpa using hh
    unfold lastB at h
    simp only [Bool.or_eq_true, Bool.and_eq_true, beq_iff_eq] at h
    have hca := mul_lt (show rows - 1 < rows by omega) (show cols - 1 < cols by omega)
    rcases h with h | ⟨h1, h2⟩
    · have hall : ∀ i, i < rows * cols → modHas Me i = true := fun i hi => by rw [ha i hi, h, Nat.testBit_two_pow_sub_one]; simpa using hi
      rw [last_yes (hall _ hca), if_neg (by have := hhas _ (hall _ hi); omega)]
      exact cell_bit (hhas _ (hall _ hi))
    · have hbit : ∀ i, i < rows * cols → (modHas Me i = true ↔ (cornM rows cols).testBit i = false) := fun i hi => by
        rw [ha i hi]
        have e1 := congrArg (fun z => z.testBit i) h1
        have e2 := congrArg (fun z => z.testBit i) h2
        simp only [Nat.testBit_or, Nat.testBit_and, Nat.testBit_two_pow_sub_one, Nat.zero_testBit] at e1 e2
        rw [decide_eq_true hi] at e1
        revert e1 e2
        cases m.testBit i <;> cases (cornM rows cols).testBit i <;> simp
      have hcor : ∀ i, (cornM rows cols).testBit i = (decide ((rows - 1) * cols + (cols - 1) = i) || decide ((rows - 1) * cols + (cols - 2) = i) || decide ((rows - 2) * cols + (cols - 1) = i) || decide ((rows - 2) * cols + (cols - 2) = i)) := fun i => by
        unfold cornM
        simp only [Nat.testBit_or, Nat.testBit_two_pow]
      have hno : modHas Me ((rows - 1) * cols + (cols - 1)) = false := by
        rw [Bool.eq_false_iff]
        intro hh
        have := (hbit _ hca).1 hh
        rw [hcor] at this
        simp at this
      unfold lastD
      rw [hno]
      simp only [true_and]
      by_cases hin : modHas Me (y * cols + x) = true
      · have hc0 := (hbit _ hi).1 hin
        rw [hcor] at hc0
        simp only [Bool.or_eq_false_iff, decide_eq_false_iff_not] at hc0
        rw [if_neg (by rintro (e | e); exact hc0.1.1.1 e.symm; exact hc0.2 e.symm), if_neg (by have := hhas _ hin; omega)]
        exact cell_bit (hhas _ hin)
      · have hin' : modHas Me (y * cols + x) = false := by simpa using hin
        have hm0 := hnot _ hin'
        rw [if_pos hm0]
        have hc1 : (cornM rows cols).testBit (y * cols + x) = true := by
          cases hq : (cornM rows cols).testBit (y * cols + x)
          · exact absurd ((hbit _ hi).2 hq) hin
          · rfl
        rw [hcor] at hc1
        simp only [Bool.or_eq_true, decide_eq_true_eq] at hc1
        have hneg : (cellM ws (Me (y * cols + x)) == 1) = false := by
          unfold cellM; rw [if_pos hm0]; rfl
        rcases hc1 with ((e | e) | e) | e
        · obtain ⟨e1, e2⟩ := idx_inj e (by omega) hx
          rw [if_pos (.inl e.symm)]
          have : (y : Int) - rows = (x : Int) - cols := by omega
          simp [this]
        · obtain ⟨e1, e2⟩ := idx_inj e (by omega) hx
          rw [if_neg (by rintro (e' | e') <;> (obtain ⟨e3, e4⟩ := idx_inj e' hx (by omega); omega)), hneg]
          have : ¬ (y : Int) - rows = (x : Int) - cols := by omega
          simp [this]
        · obtain ⟨e1, e2⟩ := idx_inj e (by omega) hx
          rw [if_neg (by rintro (e' | e') <;> (obtain ⟨e3, e4⟩ := idx_inj e' hx (by omega); omega)), hneg]
          have : ¬ (y : Int) - rows = (x : Int) - cols := by omega
          simp [this]
        · obtain ⟨e1, e2⟩ := idx_inj e (by omega) hx
          rw [if_pos (.inr e.symm)]
          have : (y : Int) - rows = (x : Int) - cols := by omega
          simp [this]
end Go.Proofs.Ytknipefcihkofaa
