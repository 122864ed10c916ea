/-
  WALKS: modes, and how many bits say the length of a segment; the law of counts.
-/
import Derived.Test.YthnhemnlapgnpaaVv
namespace Go.Proofs.Ythnhemnlapgnpaa
open Go.RowKit

/-- The bits of a count. -/
def cntT : Nat → List Nat
  | 1 => [10, 12, 14]
  | 2 => [9, 11, 13]
  | 4 => [8, 16, 16]
  | 8 => [8, 10, 12]
  | 13 => [8, 10, 12]
  | _ => [0, 0, 0]
def isMode (m : Int) : Bool := m == 0 || m == 1 || m == 2 || m == 3 || m == 4 || m == 5 || m == 7 || m == 8 || m == 9 || m == 13
def clsV (v : Nat) : Nat := if v ≤ 9 then 0 else if v ≤ 26 then 1 else 2
def cntOf (m v : Nat) : Nat := (cntT m).getD (clsV v) 0
theorem mode_yes (m : Nat) (w : World) (h : isMode m = true) : Calls Try.prog 85 #[.int .i64 m] w fun e w' => e = .returned (.tuple #[.int .i64 m, .nilIface]) ∧ w' = w := by
  have h2 : m = 0 ∨ m = 1 ∨ m = 2 ∨ m = 3 ∨ m = 4 ∨ m = 5 ∨ m = 7 ∨ m = 8 ∨ m = 9 ∨ m = 13 := by
    unfold isMode at h; simp only [Bool.or_eq_true, beq_iff_eq] at h; omega
  clear h
  rcases h2 with rfl | rfl | rfl | rfl | rfl | rfl | rfl | rfl | rfl | rfl
  · go_enter Try.func85, Try.ntmps85
    go_wp2
    go_ret2
    exact ⟨rfl, rfl⟩
  · go_enter Try.func85, Try.ntmps85
    go_wp2
    go_ret2
    exact ⟨rfl, rfl⟩
  · go_enter Try.func85, Try.ntmps85
    go_wp2
    go_ret2
    exact ⟨rfl, rfl⟩
  · go_enter Try.func85, Try.ntmps85
    go_wp2
    go_ret2
    exact ⟨rfl, rfl⟩
  · go_enter Try.func85, Try.ntmps85
    go_wp2
    go_ret2
    exact ⟨rfl, rfl⟩
  · go_enter Try.func85, Try.ntmps85
    go_wp2
    go_ret2
    exact ⟨rfl, rfl⟩
  · go_enter Try.func85, Try.ntmps85
    go_wp2
    go_ret2
    exact ⟨rfl, rfl⟩
  · go_enter Try.func85, Try.ntmps85
    go_wp2
    go_ret2
    exact ⟨rfl, rfl⟩
  · go_enter Try.func85, Try.ntmps85
    go_wp2
    go_ret2
    exact ⟨rfl, rfl⟩
  · go_enter Try.func85, Try.ntmps85
    go_wp2
    go_ret2
    exact ⟨rfl, rfl⟩
theorem mode_no (m : Int) (w : World) (h : isMode m = false) : Calls Try.prog 85 #[.int .i64 m] w fun e w' => ∃ b, e = .returned (.tuple #[.int .i64 (-1), .iface 221 (.pointer (some ⟨b, 0, none⟩))]) ∧ Below w.heap.size w w' := by
  unfold isMode at h
  simp only [Bool.or_eq_false_iff] at h
  obtain ⟨⟨⟨⟨⟨⟨⟨⟨⟨h0, h1⟩, h2⟩, h3⟩, h4⟩, h5⟩, h7⟩, h8⟩, h9⟩, h13⟩ := h
  go_enter Try.func85, Try.ntmps85
  go_wp2_with fail
  refine (errNew_any _ _).mono ?_
  rintro e w1 ⟨b, rfl, hb⟩
  go_wp2
  go_ret2
  exact ⟨b, rfl, hb⟩
theorem charBits_any (m : Nat) (w : World) (h : isMode m = true) : Calls Try.prog 114 #[.int .i64 m] w fun e w' => e = .returned (.slice (some ⟨w.heap.size, 0, none⟩) 3 3) ∧ w' = w.alloc (.cells (nvl (cntT m)).toArray 3) := by
  have h2 : m = 0 ∨ m = 1 ∨ m = 2 ∨ m = 3 ∨ m = 4 ∨ m = 5 ∨ m = 7 ∨ m = 8 ∨ m = 9 ∨ m = 13 := by
    unfold isMode at h; simp only [Bool.or_eq_true, beq_iff_eq] at h; omega
  clear h
  rcases h2 with rfl | rfl | rfl | rfl | rfl | rfl | rfl | rfl | rfl | rfl
  · go_enter Try.func114, Try.ntmps114
    go_wp2
    go_ret
    exact ⟨rfl, rfl⟩
  · go_enter Try.func114, Try.ntmps114
    go_wp2
    go_ret
    exact ⟨rfl, rfl⟩
  · go_enter Try.func114, Try.ntmps114
    go_wp2
    go_ret
    exact ⟨rfl, rfl⟩
  · go_enter Try.func114, Try.ntmps114
    go_wp2
    go_ret
    exact ⟨rfl, rfl⟩
  · go_enter Try.func114, Try.ntmps114
    go_wp2
    go_ret
    exact ⟨rfl, rfl⟩
  · go_enter Try.func114, Try.ntmps114
    go_wp2
    go_ret
    exact ⟨rfl, rfl⟩
  · go_enter Try.func114, Try.ntmps114
    go_wp2
    go_ret
    exact ⟨rfl, rfl⟩
  · go_enter Try.func114, Try.ntmps114
    go_wp2
    go_ret
    exact ⟨rfl, rfl⟩
  · go_enter Try.func114, Try.ntmps114
    go_wp2
    go_ret
    exact ⟨rfl, rfl⟩
  · go_enter Try.func114, Try.ntmps114
    go_wp2
    go_ret
    exact ⟨rfl, rfl⟩
theorem cntT_len (m : Nat) : (cntT m).length = 3 := by unfold cntT; split <;> rfl
theorem charCount_any (m p v : Nat) (w : World) (h : isMode m = true) (hv : VerAt w p v) : Calls Try.prog 86 #[.int .i64 m, .pointer (some ⟨p, 0, none⟩)] w fun e w' => e = .returned (.int .i64 (cntOf m v : Nat)) ∧ Below w.heap.size w w' := by
  have hb := Blk.fresh w 3 (nvl (cntT m)).toArray
  have hB := Lib.hid (bal (brf w) (.cells (nvl (cntT m)).toArray 3))
  have hlen := cntT_len m
  have hcell : ∀ i, i < 3 → (w.alloc (.cells (nvl (cntT m)).toArray 3)).cell? ⟨w.heap.size, i, none⟩ = some (.int .i64 (((cntT m).getD i 0 : Nat) : Int)) := fun i hi => by
    rw [hb.cell, List.getElem?_toArray, nvl_at _ _ (by omega), List.getD, List.getElem?_eq_getElem (by omega)]; rfl
  have HC := Lib.hid hcell
  have hch := charBits_any m w h
  unfold cntOf
  generalize hwa : w.alloc (.cells (nvl (cntT m)).toArray 3) = wa at *
  have HWA := Lib.hid hwa
  clear hb hcell hlen hwa
  by_cases h1 : v ≤ 9
  · have hcl : clsV v = 0 := by unfold clsV; rw [if_pos h1]
    rw [hcl]; clear hcl
    have c0 := HC.out 0 (by decide)
    generalize (cntT m).getD 0 0 = z at *
    go_enter Try.func86, Try.ntmps86
    go_wp2_with fail
    refine (verNumber_any p v _ hv).mono ?_
    rintro e w ⟨rfl, rfl⟩
    go_wp2_with fail
    refine hch.mono ?_
    rintro e w1 ⟨rfl, rfl⟩
    go_wp2
    go_ret
    exact ⟨rfl, hB.out⟩
  · by_cases h2 : v ≤ 26
    · have hcl : clsV v = 1 := by unfold clsV; rw [if_neg h1, if_pos h2]
      rw [hcl]; clear hcl
      have c0 := HC.out 1 (by decide)
      generalize (cntT m).getD 1 0 = z at *
      go_enter Try.func86, Try.ntmps86
      go_wp2_with fail
      refine (verNumber_any p v _ hv).mono ?_
      rintro e w ⟨rfl, rfl⟩
      go_wp2_with fail
      refine hch.mono ?_
      rintro e w1 ⟨rfl, rfl⟩
      go_wp2
      go_ret
      exact ⟨rfl, hB.out⟩
    · have hcl : clsV v = 2 := by unfold clsV; rw [if_neg h1, if_neg h2]
      rw [hcl]; clear hcl
      have c0 := HC.out 2 (by decide)
      generalize (cntT m).getD 2 0 = z at *
      go_enter Try.func86, Try.ntmps86
      go_wp2_with fail
      refine (verNumber_any p v _ hv).mono ?_
      rintro e w ⟨rfl, rfl⟩
      go_wp2_with fail
      refine hch.mono ?_
      rintro e w1 ⟨rfl, rfl⟩
      go_wp2
      go_ret
      exact ⟨rfl, hB.out⟩

/-! ### spec.QRCountBits -/
theorem specCount_no (m : Int) (v : Nat) (w : World) (h : isMode m = false) : Calls Try.prog 41 #[.int .i64 m, .int .i64 v] w fun e w' => e = .returned (.tuple #[.int .i64 0, .bool false]) ∧ Below w.heap.size w w' := by
  unfold isMode at h
  simp only [Bool.or_eq_false_iff] at h
  obtain ⟨⟨⟨⟨⟨⟨⟨⟨⟨h0, h1⟩, h2⟩, h3⟩, h4⟩, h5⟩, h7⟩, h8⟩, h9⟩, h13⟩ := h
  go_enter Try.func41, Try.ntmps41
  go_wp2
  go_ret2
  exact ⟨rfl, bal (brf w) _⟩
set_option maxHeartbeats 4000000 in
theorem specCount_yes (m v : Nat) (w : World) (h : isMode m = true) : Calls Try.prog 41 #[.int .i64 m, .int .i64 v] w fun e w' => e = .returned (.tuple #[.int .i64 (cntOf m v : Nat), .bool true]) ∧ Below w.heap.size w w' := by
  have h2 : m = 0 ∨ m = 1 ∨ m = 2 ∨ m = 3 ∨ m = 4 ∨ m = 5 ∨ m = 7 ∨ m = 8 ∨ m = 9 ∨ m = 13 := by
    unfold isMode at h; simp only [Bool.or_eq_true, beq_iff_eq] at h; omega
  clear h
  rcases h2 with rfl | rfl | rfl | rfl | rfl | rfl | rfl | rfl | rfl | rfl
  · by_cases h1 : v ≤ 9
    · have hcl : clsV v = 0 := by unfold clsV; rw [if_pos h1]
      unfold cntOf; rw [hcl]; clear hcl
      go_enter Try.func41, Try.ntmps41
      go_wp2
      go_ret2
      exact ⟨rfl, by first | exact (bal (brf w) _) | exact ((bal (brf w) _).setCell (by simp) _) | exact (((bal (brf w) _).setCell (by simp) _).setCell (by simp) _).setCell (by simp) _⟩
    · by_cases h2 : v ≤ 26
      · have hcl : clsV v = 1 := by unfold clsV; rw [if_neg h1, if_pos h2]
        unfold cntOf; rw [hcl]; clear hcl
        go_enter Try.func41, Try.ntmps41
        go_wp2
        go_ret2
        exact ⟨rfl, by first | exact (bal (brf w) _) | exact ((bal (brf w) _).setCell (by simp) _) | exact (((bal (brf w) _).setCell (by simp) _).setCell (by simp) _).setCell (by simp) _⟩
      · have hcl : clsV v = 2 := by unfold clsV; rw [if_neg h1, if_neg h2]
        unfold cntOf; rw [hcl]; clear hcl
        go_enter Try.func41, Try.ntmps41
        go_wp2
        go_ret2
        exact ⟨rfl, by first | exact (bal (brf w) _) | exact ((bal (brf w) _).setCell (by simp) _) | exact (((bal (brf w) _).setCell (by simp) _).setCell (by simp) _).setCell (by simp) _⟩
  · by_cases h1 : v ≤ 9
    · have hcl : clsV v = 0 := by unfold clsV; rw [if_pos h1]
      unfold cntOf; rw [hcl]; clear hcl
      go_enter Try.func41, Try.ntmps41
      go_wp2
      go_ret2
      exact ⟨rfl, by first | exact (bal (brf w) _) | exact ((bal (brf w) _).setCell (by simp) _) | exact (((bal (brf w) _).setCell (by simp) _).setCell (by simp) _).setCell (by simp) _⟩
    · by_cases h2 : v ≤ 26
      · have hcl : clsV v = 1 := by unfold clsV; rw [if_neg h1, if_pos h2]
        unfold cntOf; rw [hcl]; clear hcl
        go_enter Try.func41, Try.ntmps41
        go_wp2
        go_ret2
        exact ⟨rfl, by first | exact (bal (brf w) _) | exact ((bal (brf w) _).setCell (by simp) _) | exact (((bal (brf w) _).setCell (by simp) _).setCell (by simp) _).setCell (by simp) _⟩
      · have hcl : clsV v = 2 := by unfold clsV; rw [if_neg h1, if_neg h2]
        unfold cntOf; rw [hcl]; clear hcl
        go_enter Try.func41, Try.ntmps41
        go_wp2
        go_ret2
        exact ⟨rfl, by first | exact (bal (brf w) _) | exact ((bal (brf w) _).setCell (by simp) _) | exact (((bal (brf w) _).setCell (by simp) _).setCell (by simp) _).setCell (by simp) _⟩
  · by_cases h1 : v ≤ 9
    · have hcl : clsV v = 0 := by unfold clsV; rw [if_pos h1]
      unfold cntOf; rw [hcl]; clear hcl
      go_enter Try.func41, Try.ntmps41
      go_wp2
      go_ret2
      exact ⟨rfl, by first | exact (bal (brf w) _) | exact ((bal (brf w) _).setCell (by simp) _) | exact (((bal (brf w) _).setCell (by simp) _).setCell (by simp) _).setCell (by simp) _⟩
    · by_cases h2 : v ≤ 26
      · have hcl : clsV v = 1 := by unfold clsV; rw [if_neg h1, if_pos h2]
        unfold cntOf; rw [hcl]; clear hcl
        go_enter Try.func41, Try.ntmps41
        go_wp2
        go_ret2
        exact ⟨rfl, by first | exact (bal (brf w) _) | exact ((bal (brf w) _).setCell (by simp) _) | exact (((bal (brf w) _).setCell (by simp) _).setCell (by simp) _).setCell (by simp) _⟩
      · have hcl : clsV v = 2 := by unfold clsV; rw [if_neg h1, if_neg h2]
        unfold cntOf; rw [hcl]; clear hcl
        go_enter Try.func41, Try.ntmps41
        go_wp2
        go_ret2
        exact ⟨rfl, by first | exact (bal (brf w) _) | exact ((bal (brf w) _).setCell (by simp) _) | exact (((bal (brf w) _).setCell (by simp) _).setCell (by simp) _).setCell (by simp) _⟩
  · by_cases h1 : v ≤ 9
    · have hcl : clsV v = 0 := by unfold clsV; rw [if_pos h1]
      unfold cntOf; rw [hcl]; clear hcl
      go_enter Try.func41, Try.ntmps41
      go_wp2
      go_ret2
      exact ⟨rfl, by first | exact (bal (brf w) _) | exact ((bal (brf w) _).setCell (by simp) _) | exact (((bal (brf w) _).setCell (by simp) _).setCell (by simp) _).setCell (by simp) _⟩
    · by_cases h2 : v ≤ 26
      · have hcl : clsV v = 1 := by unfold clsV; rw [if_neg h1, if_pos h2]
        unfold cntOf; rw [hcl]; clear hcl
        go_enter Try.func41, Try.ntmps41
        go_wp2
        go_ret2
        exact ⟨rfl, by first | exact (bal (brf w) _) | exact ((bal (brf w) _).setCell (by simp) _) | exact (((bal (brf w) _).setCell (by simp) _).setCell (by simp) _).setCell (by simp) _⟩
      · have hcl : clsV v = 2 := by unfold clsV; rw [if_neg h1, if_neg h2]
        unfold cntOf; rw [hcl]; clear hcl
        go_enter Try.func41, Try.ntmps41
        go_wp2
        go_ret2
        exact ⟨rfl, by first | exact (bal (brf w) _) | exact ((bal (brf w) _).setCell (by simp) _) | exact (((bal (brf w) _).setCell (by simp) _).setCell (by simp) _).setCell (by simp) _⟩
  · by_cases h1 : v ≤ 9
    · have hcl : clsV v = 0 := by unfold clsV; rw [if_pos h1]
      unfold cntOf; rw [hcl]; clear hcl
      go_enter Try.func41, Try.ntmps41
      go_wp2
      go_ret2
      exact ⟨rfl, by first | exact (bal (brf w) _) | exact ((bal (brf w) _).setCell (by simp) _) | exact (((bal (brf w) _).setCell (by simp) _).setCell (by simp) _).setCell (by simp) _⟩
    · by_cases h2 : v ≤ 26
      · have hcl : clsV v = 1 := by unfold clsV; rw [if_neg h1, if_pos h2]
        unfold cntOf; rw [hcl]; clear hcl
        go_enter Try.func41, Try.ntmps41
        go_wp2
        go_ret2
        exact ⟨rfl, by first | exact (bal (brf w) _) | exact ((bal (brf w) _).setCell (by simp) _) | exact (((bal (brf w) _).setCell (by simp) _).setCell (by simp) _).setCell (by simp) _⟩
      · have hcl : clsV v = 2 := by unfold clsV; rw [if_neg h1, if_neg h2]
        unfold cntOf; rw [hcl]; clear hcl
        go_enter Try.func41, Try.ntmps41
        go_wp2
        go_ret2
        exact ⟨rfl, by first | exact (bal (brf w) _) | exact ((bal (brf w) _).setCell (by simp) _) | exact (((bal (brf w) _).setCell (by simp) _).setCell (by simp) _).setCell (by simp) _⟩
  · by_cases h1 : v ≤ 9
    · have hcl : clsV v = 0 := by unfold clsV; rw [if_pos h1]
      unfold cntOf; rw [hcl]; clear hcl
      go_enter Try.func41, Try.ntmps41
      go_wp2
      go_ret2
      exact ⟨rfl, by first | exact (bal (brf w) _) | exact ((bal (brf w) _).setCell (by simp) _) | exact (((bal (brf w) _).setCell (by simp) _).setCell (by simp) _).setCell (by simp) _⟩
    · by_cases h2 : v ≤ 26
      · have hcl : clsV v = 1 := by unfold clsV; rw [if_neg h1, if_pos h2]
        unfold cntOf; rw [hcl]; clear hcl
        go_enter Try.func41, Try.ntmps41
        go_wp2
        go_ret2
        exact ⟨rfl, by first | exact (bal (brf w) _) | exact ((bal (brf w) _).setCell (by simp) _) | exact (((bal (brf w) _).setCell (by simp) _).setCell (by simp) _).setCell (by simp) _⟩
      · have hcl : clsV v = 2 := by unfold clsV; rw [if_neg h1, if_neg h2]
        unfold cntOf; rw [hcl]; clear hcl
        go_enter Try.func41, Try.ntmps41
        go_wp2
        go_ret2
        exact ⟨rfl, by first | exact (bal (brf w) _) | exact ((bal (brf w) _).setCell (by simp) _) | exact (((bal (brf w) _).setCell (by simp) _).setCell (by simp) _).setCell (by simp) _⟩
  · by_cases h1 : v ≤ 9
    · have hcl : clsV v = 0 := by unfold clsV; rw [if_pos h1]
      unfold cntOf; rw [hcl]; clear hcl
      go_enter Try.func41, Try.ntmps41
      go_wp2
      go_ret2
      exact ⟨rfl, by first | exact (bal (brf w) _) | exact ((bal (brf w) _).setCell (by simp) _) | exact (((bal (brf w) _).setCell (by simp) _).setCell (by simp) _).setCell (by simp) _⟩
    · by_cases h2 : v ≤ 26
      · have hcl : clsV v = 1 := by unfold clsV; rw [if_neg h1, if_pos h2]
        unfold cntOf; rw [hcl]; clear hcl
        go_enter Try.func41, Try.ntmps41
        go_wp2
        go_ret2
        exact ⟨rfl, by first | exact (bal (brf w) _) | exact ((bal (brf w) _).setCell (by simp) _) | exact (((bal (brf w) _).setCell (by simp) _).setCell (by simp) _).setCell (by simp) _⟩
      · have hcl : clsV v = 2 := by unfold clsV; rw [if_neg h1, if_neg h2]
        unfold cntOf; rw [hcl]; clear hcl
        go_enter Try.func41, Try.ntmps41
        go_wp2
        go_ret2
        exact ⟨rfl, by first | exact (bal (brf w) _) | exact ((bal (brf w) _).setCell (by simp) _) | exact (((bal (brf w) _).setCell (by simp) _).setCell (by simp) _).setCell (by simp) _⟩
  · by_cases h1 : v ≤ 9
    · have hcl : clsV v = 0 := by unfold clsV; rw [if_pos h1]
      unfold cntOf; rw [hcl]; clear hcl
      go_enter Try.func41, Try.ntmps41
      go_wp2
      go_ret2
      exact ⟨rfl, by first | exact (bal (brf w) _) | exact ((bal (brf w) _).setCell (by simp) _) | exact (((bal (brf w) _).setCell (by simp) _).setCell (by simp) _).setCell (by simp) _⟩
    · by_cases h2 : v ≤ 26
      · have hcl : clsV v = 1 := by unfold clsV; rw [if_neg h1, if_pos h2]
        unfold cntOf; rw [hcl]; clear hcl
        go_enter Try.func41, Try.ntmps41
        go_wp2
        go_ret2
        exact ⟨rfl, by first | exact (bal (brf w) _) | exact ((bal (brf w) _).setCell (by simp) _) | exact (((bal (brf w) _).setCell (by simp) _).setCell (by simp) _).setCell (by simp) _⟩
      · have hcl : clsV v = 2 := by unfold clsV; rw [if_neg h1, if_neg h2]
        unfold cntOf; rw [hcl]; clear hcl
        go_enter Try.func41, Try.ntmps41
        go_wp2
        go_ret2
        exact ⟨rfl, by first | exact (bal (brf w) _) | exact ((bal (brf w) _).setCell (by simp) _) | exact (((bal (brf w) _).setCell (by simp) _).setCell (by simp) _).setCell (by simp) _⟩
  · by_cases h1 : v ≤ 9
    · have hcl : clsV v = 0 := by unfold clsV; rw [if_pos h1]
      unfold cntOf; rw [hcl]; clear hcl
      go_enter Try.func41, Try.ntmps41
      go_wp2
      go_ret2
      exact ⟨rfl, by first | exact (bal (brf w) _) | exact ((bal (brf w) _).setCell (by simp) _) | exact (((bal (brf w) _).setCell (by simp) _).setCell (by simp) _).setCell (by simp) _⟩
    · by_cases h2 : v ≤ 26
      · have hcl : clsV v = 1 := by unfold clsV; rw [if_neg h1, if_pos h2]
        unfold cntOf; rw [hcl]; clear hcl
        go_enter Try.func41, Try.ntmps41
        go_wp2
        go_ret2
        exact ⟨rfl, by first | exact (bal (brf w) _) | exact ((bal (brf w) _).setCell (by simp) _) | exact (((bal (brf w) _).setCell (by simp) _).setCell (by simp) _).setCell (by simp) _⟩
      · have hcl : clsV v = 2 := by unfold clsV; rw [if_neg h1, if_neg h2]
        unfold cntOf; rw [hcl]; clear hcl
        go_enter Try.func41, Try.ntmps41
        go_wp2
        go_ret2
        exact ⟨rfl, by first | exact (bal (brf w) _) | exact ((bal (brf w) _).setCell (by simp) _) | exact (((bal (brf w) _).setCell (by simp) _).setCell (by simp) _).setCell (by simp) _⟩
  · by_cases h1 : v ≤ 9
    · have hcl : clsV v = 0 := by unfold clsV; rw [if_pos h1]
      unfold cntOf; rw [hcl]; clear hcl
      go_enter Try.func41, Try.ntmps41
      go_wp2
      go_ret2
      exact ⟨rfl, by first | exact (bal (brf w) _) | exact ((bal (brf w) _).setCell (by simp) _) | exact (((bal (brf w) _).setCell (by simp) _).setCell (by simp) _).setCell (by simp) _⟩
    · by_cases h2 : v ≤ 26
      · have hcl : clsV v = 1 := by unfold clsV; rw [if_neg h1, if_pos h2]
        unfold cntOf; rw [hcl]; clear hcl
        go_enter Try.func41, Try.ntmps41
        go_wp2
        go_ret2
        exact ⟨rfl, by first | exact (bal (brf w) _) | exact ((bal (brf w) _).setCell (by simp) _) | exact (((bal (brf w) _).setCell (by simp) _).setCell (by simp) _).setCell (by simp) _⟩
      · have hcl : clsV v = 2 := by unfold clsV; rw [if_neg h1, if_neg h2]
        unfold cntOf; rw [hcl]; clear hcl
        go_enter Try.func41, Try.ntmps41
        go_wp2
        go_ret2
        exact ⟨rfl, by first | exact (bal (brf w) _) | exact ((bal (brf w) _).setCell (by simp) _) | exact (((bal (brf w) _).setCell (by simp) _).setCell (by simp) _).setCell (by simp) _⟩

/-! ### the law -/
theorem implCount_yes (m v : Nat) (w : World) (h : isMode m = true) (h1 : 1 ≤ v) (h2 : v ≤ 40) : Calls Try.prog 40 #[.int .i64 m, .int .i64 v] w fun e w' => e = .returned (.tuple #[.int .i64 (cntOf m v : Nat), .bool true]) ∧ Below w.heap.size w w' := by
  go_enter Try.func40, Try.ntmps40
  go_wp2_with fail
  refine (mode_yes m w h).mono ?_
  rintro e w ⟨rfl, rfl⟩
  go_wp2_with fail
  refine (getVersion_yes v w h1 h2).mono ?_
  rintro e w1 ⟨p, rfl, hv, hb⟩
  have HB := Lib.hid hb; clear hb
  go_wp2_with fail
  refine (charCount_any m p v _ h hv).mono ?_
  rintro e w2 ⟨rfl, hb2⟩
  have HB2 := Lib.hid (bup HB.out hb2); clear hb2 hv
  go_wp2
  go_ret2
  exact ⟨rfl, HB2.out⟩
theorem implCount_no (m : Int) (v : Nat) (w : World) (h : isMode m = false) : Calls Try.prog 40 #[.int .i64 m, .int .i64 v] w fun e w' => e = .returned (.tuple #[.int .i64 0, .bool false]) ∧ Below w.heap.size w w' := by
  go_enter Try.func40, Try.ntmps40
  go_wp2_with fail
  refine (mode_no m w h).mono ?_
  rintro e w1 ⟨b, rfl, hb⟩
  have HB := Lib.hid hb; clear hb
  go_wp2
  go_ret2
  exact ⟨rfl, HB.out⟩
theorem qrVersion_any (n : Nat) (w : World) (hn : n < 256) : Calls Try.prog 21 #[.int .u8 n] w fun e w' => e = .returned (.int .i64 ((1 + n % 40 : Nat) : Int)) ∧ w' = w := by
  go_enter Try.func21, Try.ntmps21
  go_wp2
  go_ret
  exact ⟨ret_int (by omega), rfl⟩
theorem counts_walk (m : Int) (n : Nat) (w : World) (hn : n < 256) : Calls Try.prog 8 #[.int .i64 m, .int .u8 n] w fun e w' => e = .returned (.bool true) ∧ Below w.heap.size w w' := by
  have hq := fun (w' : World) => qrVersion_any n w' hn
  have h1 : 1 ≤ 1 + n % 40 := by omega
  have h2 : 1 + n % 40 ≤ 40 := by omega
  have HQ := Lib.hid hq; clear hq
  generalize 1 + n % 40 = v at *
  rcases hm : isMode m with _ | _
  · go_enter Try.func8, Try.ntmps8
    go_wp2_with fail
    refine (HQ.out _).mono ?_
    rintro e w ⟨rfl, rfl⟩
    go_wp2_with fail
    refine (implCount_no m v w hm).mono ?_
    rintro e w1 ⟨rfl, hb⟩
    have HB := Lib.hid hb; clear hb
    go_wp2_with fail
    refine (HQ.out _).mono ?_
    rintro e w1 ⟨rfl, rfl⟩
    go_wp2_with fail
    refine (specCount_no m v _ hm).mono ?_
    rintro e w2 ⟨rfl, hb⟩
    have HB2 := Lib.hid (bup HB.out hb); clear hb
    go_wp2
    go_ret
    exact ⟨rfl, HB2.out⟩
  · obtain ⟨m', rfl⟩ : ∃ m' : Nat, m = m' := by
      have h0 : 0 ≤ m := by unfold isMode at hm; simp only [Bool.or_eq_true, beq_iff_eq] at hm; omega
      exact Int.eq_ofNat_of_zero_le h0
    go_enter Try.func8, Try.ntmps8
    go_wp2_with fail
    refine (HQ.out _).mono ?_
    rintro e w ⟨rfl, rfl⟩
    go_wp2_with fail
    refine (implCount_yes m' v w hm h1 h2).mono ?_
    rintro e w1 ⟨rfl, hb⟩
    have HB := Lib.hid hb; clear hb
    go_wp2_with fail
    refine (HQ.out _).mono ?_
    rintro e w1 ⟨rfl, rfl⟩
    go_wp2_with fail
    refine (specCount_yes m' v _ hm).mono ?_
    rintro e w2 ⟨rfl, hb⟩
    have HB2 := Lib.hid (bup HB.out hb); clear hb
    go_wp2
    go_ret
    exact ⟨rfl, HB2.out⟩
end Go.Proofs.Ythnhemnlapgnpaa
