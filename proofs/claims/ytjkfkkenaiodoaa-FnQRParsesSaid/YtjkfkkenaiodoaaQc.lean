/-
  WALKS: modes, and how many bits say the length of a segment; the law of counts.
-/
import Derived.Test.YtjkfkkenaiodoaaVv
namespace Go.Proofs.Ytjkfkkenaiodoaa
open Go.RowKit

/-- The bits of a count. -/
def cntT : Nat → List Nat
  | 1 => [10, 12, 14]
  | 2 => [9, 11, 13]
  | 4 => [8, 16, 16]
  | 8 => [8, 10, 12]
  | 13 => [8, 10, 12]
  | _ => [0, 0, 0]
def isMode (m : Int) : Bool := m == 0 || m == 1 || m == 2 || m == 3 || m == 4 || m == 5 || m == 7 || m == 8 || m == 9 || m == 13
def clsV (v : Nat) : Nat := if v ≤ 9 then 0 else if v ≤ 26 then 1 else 2
def cntOf (m v : Nat) : Nat := (cntT m).getD (clsV v) 0
theorem mode_yes (m : Nat) (w : World) (h : isMode m = true) : Calls Try.prog 34 #[.int .i64 m] w fun e w' => e = .returned (.tuple #[.int .i64 m, .nilIface]) ∧ w' = w := by
  have h2 : m = 0 ∨ m = 1 ∨ m = 2 ∨ m = 3 ∨ m = 4 ∨ m = 5 ∨ m = 7 ∨ m = 8 ∨ m = 9 ∨ m = 13 := by
    unfold isMode at h; simp only [Bool.or_eq_true, beq_iff_eq] at h; omega
  clear h
  rcases h2 with rfl | rfl | rfl | rfl | rfl | rfl | rfl | rfl | rfl | rfl
  · go_enter Try.func34, Try.ntmps34
    go_wp2
    go_ret2
    exact ⟨rfl, rfl⟩
  · go_enter Try.func34, Try.ntmps34
    go_wp2
    go_ret2
    exact ⟨rfl, rfl⟩
  · go_enter Try.func34, Try.ntmps34
    go_wp2
    go_ret2
    exact ⟨rfl, rfl⟩
  · go_enter Try.func34, Try.ntmps34
    go_wp2
    go_ret2
    exact ⟨rfl, rfl⟩
  · go_enter Try.func34, Try.ntmps34
    go_wp2
    go_ret2
    exact ⟨rfl, rfl⟩
  · go_enter Try.func34, Try.ntmps34
    go_wp2
    go_ret2
    exact ⟨rfl, rfl⟩
  · go_enter Try.func34, Try.ntmps34
    go_wp2
    go_ret2
    exact ⟨rfl, rfl⟩
  · go_enter Try.func34, Try.ntmps34
    go_wp2
    go_ret2
    exact ⟨rfl, rfl⟩
  · go_enter Try.func34, Try.ntmps34
    go_wp2
    go_ret2
    exact ⟨rfl, rfl⟩
  · go_enter Try.func34, Try.ntmps34
    go_wp2
    go_ret2
    exact ⟨rfl, rfl⟩
theorem mode_no (m : Int) (w : World) (h : isMode m = false) : Calls Try.prog 34 #[.int .i64 m] w fun e w' => ∃ b, e = .returned (.tuple #[.int .i64 (-1), .iface 93 (.pointer (some ⟨b, 0, none⟩))]) ∧ Below w.heap.size w w' := by
  unfold isMode at h
  simp only [Bool.or_eq_false_iff] at h
  obtain ⟨⟨⟨⟨⟨⟨⟨⟨⟨h0, h1⟩, h2⟩, h3⟩, h4⟩, h5⟩, h7⟩, h8⟩, h9⟩, h13⟩ := h
  go_enter Try.func34, Try.ntmps34
  go_wp2_with fail
  refine (errNew_any _ _).mono ?_
  rintro e w1 ⟨b, rfl, hb⟩
  go_wp2
  go_ret2
  exact ⟨b, rfl, hb⟩
theorem charBits_any (m : Nat) (w : World) (h : isMode m = true) : Calls Try.prog 51 #[.int .i64 m] w fun e w' => e = .returned (.slice (some ⟨w.heap.size, 0, none⟩) 3 3) ∧ w' = w.alloc (.cells (nvl (cntT m)).toArray 3) := by
  have h2 : m = 0 ∨ m = 1 ∨ m = 2 ∨ m = 3 ∨ m = 4 ∨ m = 5 ∨ m = 7 ∨ m = 8 ∨ m = 9 ∨ m = 13 := by
    unfold isMode at h; simp only [Bool.or_eq_true, beq_iff_eq] at h; omega
  clear h
  rcases h2 with rfl | rfl | rfl | rfl | rfl | rfl | rfl | rfl | rfl | rfl
  · go_enter Try.func51, Try.ntmps51
    go_wp2
    go_ret
    exact ⟨rfl, rfl⟩
  · go_enter Try.func51, Try.ntmps51
    go_wp2
    go_ret
    exact ⟨rfl, rfl⟩
  · go_enter Try.func51, Try.ntmps51
    go_wp2
    go_ret
    exact ⟨rfl, rfl⟩
  · go_enter Try.func51, Try.ntmps51
    go_wp2
    go_ret
    exact ⟨rfl, rfl⟩
  · go_enter Try.func51, Try.ntmps51
    go_wp2
    go_ret
    exact ⟨rfl, rfl⟩
  · go_enter Try.func51, Try.ntmps51
    go_wp2
    go_ret
    exact ⟨rfl, rfl⟩
  · go_enter Try.func51, Try.ntmps51
    go_wp2
    go_ret
    exact ⟨rfl, rfl⟩
  · go_enter Try.func51, Try.ntmps51
    go_wp2
    go_ret
    exact ⟨rfl, rfl⟩
  · go_enter Try.func51, Try.ntmps51
    go_wp2
    go_ret
    exact ⟨rfl, rfl⟩
  · go_enter Try.func51, Try.ntmps51
    go_wp2
    go_ret
    exact ⟨rfl, rfl⟩
theorem cntT_len (m : Nat) : (cntT m).length = 3 := by unfold cntT; split <;> rfl
theorem charCount_any (m p v : Nat) (w : World) (h : isMode m = true) (hv : VerAt w p v) : Calls Try.prog 38 #[.int .i64 m, .pointer (some ⟨p, 0, none⟩)] w fun e w' => e = .returned (.int .i64 (cntOf m v : Nat)) ∧ Below w.heap.size w w' := by
  have hb := Blk.fresh w 3 (nvl (cntT m)).toArray
  have hB := Lib.hid (bal (brf w) (.cells (nvl (cntT m)).toArray 3))
  have hlen := cntT_len m
  have hcell : ∀ i, i < 3 → (w.alloc (.cells (nvl (cntT m)).toArray 3)).cell? ⟨w.heap.size, i, none⟩ = some (.int .i64 (((cntT m).getD i 0 : Nat) : Int)) := fun i hi => by
    rw [hb.cell, List.getElem?_toArray, nvl_at _ _ (by omega), List.getD, List.getElem?_eq_getElem (by omega)]; rfl
  have HC := Lib.hid hcell
  have hch := charBits_any m w h
  unfold cntOf
  generalize hwa : w.alloc (.cells (nvl (cntT m)).toArray 3) = wa at *
  have HWA := Lib.hid hwa
  clear hb hcell hlen hwa
  by_cases h1 : v ≤ 9
  · have hcl : clsV v = 0 := by unfold clsV; rw [if_pos h1]
    rw [hcl]; clear hcl
    have c0 := HC.out 0 (by decide)
    generalize (cntT m).getD 0 0 = z at *
    go_enter Try.func38, Try.ntmps38
    go_wp2_with fail
    refine (verNumber_any p v _ hv).mono ?_
    rintro e w ⟨rfl, rfl⟩
    go_wp2_with fail
    refine hch.mono ?_
    rintro e w1 ⟨rfl, rfl⟩
    go_wp2
    go_ret
    exact ⟨rfl, hB.out⟩
  · by_cases h2 : v ≤ 26
    · have hcl : clsV v = 1 := by unfold clsV; rw [if_neg h1, if_pos h2]
      rw [hcl]; clear hcl
      have c0 := HC.out 1 (by decide)
      generalize (cntT m).getD 1 0 = z at *
      go_enter Try.func38, Try.ntmps38
      go_wp2_with fail
      refine (verNumber_any p v _ hv).mono ?_
      rintro e w ⟨rfl, rfl⟩
      go_wp2_with fail
      refine hch.mono ?_
      rintro e w1 ⟨rfl, rfl⟩
      go_wp2
      go_ret
      exact ⟨rfl, hB.out⟩
    · have hcl : clsV v = 2 := by unfold clsV; rw [if_neg h1, if_neg h2]
      rw [hcl]; clear hcl
      have c0 := HC.out 2 (by decide)
      generalize (cntT m).getD 2 0 = z at *
      go_enter Try.func38, Try.ntmps38
      go_wp2_with fail
      refine (verNumber_any p v _ hv).mono ?_
      rintro e w ⟨rfl, rfl⟩
      go_wp2_with fail
      refine hch.mono ?_
      rintro e w1 ⟨rfl, rfl⟩
      go_wp2
      go_ret
      exact ⟨rfl, hB.out⟩

/-! ### spec.QRCountBits -/
theorem specCount_no (m : Int) (v : Nat) (w : World) (h : isMode m = false) : Calls Try.prog 13 #[.int .i64 m, .int .i64 v] w fun e w' => e = .returned (.tuple #[.int .i64 0, .bool false]) ∧ Below w.heap.size w w' := by
  unfold isMode at h
  simp only [Bool.or_eq_false_iff] at h
  obtain ⟨⟨⟨⟨⟨⟨⟨⟨⟨h0, h1⟩, h2⟩, h3⟩, h4⟩, h5⟩, h7⟩, h8⟩, h9⟩, h13⟩ := h
  go_enter Try.func13, Try.ntmps13
  go_wp2
  go_ret2
  exact ⟨rfl, bal (brf w) _⟩
set_option maxHeartbeats 4000000 in
theorem specCount_yes (m v : Nat) (w : World) (h : isMode m = true) : Calls Try.prog 13 #[.int .i64 m, .int .i64 v] w fun e w' => e = .returned (.tuple #[.int .i64 (cntOf m v : Nat), .bool true]) ∧ Below w.heap.size w w' := by
  have h2 : m = 0 ∨ m = 1 ∨ m = 2 ∨ m = 3 ∨ m = 4 ∨ m = 5 ∨ m = 7 ∨ m = 8 ∨ m = 9 ∨ m = 13 := by
    unfold isMode at h; simp only [Bool.or_eq_true, beq_iff_eq] at h; omega
  clear h
  rcases h2 with rfl | rfl | rfl | rfl | rfl | rfl | rfl | rfl | rfl | rfl
  · by_cases h1 : v ≤ 9
    · have hcl : clsV v = 0 := by unfold clsV; rw [if_pos h1]
      unfold cntOf; rw [hcl]; clear hcl
      go_enter Try.func13, Try.ntmps13
      go_wp2
      go_ret2
      exact ⟨rfl, by first | exact (bal (brf w) _) | exact ((bal (brf w) _).setCell (by simp) _) | exact (((bal (brf w) _).setCell (by simp) _).setCell (by simp) _).setCell (by simp) _⟩
    · by_cases h2 : v ≤ 26
      · have hcl : clsV v = 1 := by unfold clsV; rw [if_neg h1, if_pos h2]
        unfold cntOf; rw [hcl]; clear hcl
        go_enter Try.func13, Try.ntmps13
        go_wp2
        go_ret2
        exact ⟨rfl, by first | exact (bal (brf w) _) | exact ((bal (brf w) _).setCell (by simp) _) | exact (((bal (brf w) _).setCell (by simp) _).setCell (by simp) _).setCell (by simp) _⟩
      · have hcl : clsV v = 2 := by unfold clsV; rw [if_neg h1, if_neg h2]
        unfold cntOf; rw [hcl]; clear hcl
        go_enter Try.func13, Try.ntmps13
        go_wp2
        go_ret2
        exact ⟨rfl, by first | exact (bal (brf w) _) | exact ((bal (brf w) _).setCell (by simp) _) | exact (((bal (brf w) _).setCell (by simp) _).setCell (by simp) _).setCell (by simp) _⟩
  · by_cases h1 : v ≤ 9
    · have hcl : clsV v = 0 := by unfold clsV; rw [if_pos h1]
      unfold cntOf; rw [hcl]; clear hcl
      go_enter Try.func13, Try.ntmps13
      go_wp2
      go_ret2
      exact ⟨rfl, by first | exact (bal (brf w) _) | exact ((bal (brf w) _).setCell (by simp) _) | exact (((bal (brf w) _).setCell (by simp) _).setCell (by simp) _).setCell (by simp) _⟩
    · by_cases h2 : v ≤ 26
      · have hcl : clsV v = 1 := by unfold clsV; rw [if_neg h1, if_pos h2]
        unfold cntOf; rw [hcl]; clear hcl
        go_enter Try.func13, Try.ntmps13
        go_wp2
        go_ret2
        exact ⟨rfl, by first | exact (bal (brf w) _) | exact ((bal (brf w) _).setCell (by simp) _) | exact (((bal (brf w) _).setCell (by simp) _).setCell (by simp) _).setCell (by simp) _⟩
      · have hcl : clsV v = 2 := by unfold clsV; rw [if_neg h1, if_neg h2]
        unfold cntOf; rw [hcl]; clear hcl
        go_enter Try.func13, Try.ntmps13
        go_wp2
        go_ret2
        exact ⟨rfl, by first | exact (bal (brf w) _) | exact ((bal (brf w) _).setCell (by simp) _) | exact (((bal (brf w) _).setCell (by simp) _).setCell (by simp) _).setCell (by simp) _⟩
  · by_cases h1 : v ≤ 9
    · have hcl : clsV v = 0 := by unfold clsV; rw [if_pos h1]
      unfold cntOf; rw [hcl]; clear hcl
      go_enter Try.func13, Try.ntmps13
      go_wp2
      go_ret2
      exact ⟨rfl, by first | exact (bal (brf w) _) | exact ((bal (brf w) _).setCell (by simp) _) | exact (((bal (brf w) _).setCell (by simp) _).setCell (by simp) _).setCell (by simp) _⟩
    · by_cases h2 : v ≤ 26
      · have hcl : clsV v = 1 := by unfold clsV; rw [if_neg h1, if_pos h2]
        unfold cntOf; rw [hcl]; clear hcl
        go_enter Try.func13, Try.ntmps13
        go_wp2
        go_ret2
        exact ⟨rfl, by first | exact (bal (brf w) _) | exact ((bal (brf w) _).setCell (by simp) _) | exact (((bal (brf w) _).setCell (by simp) _).setCell (by simp) _).setCell (by simp) _⟩
      · have hcl : clsV v = 2 := by unfold clsV; rw [if_neg h1, if_neg h2]
        unfold cntOf; rw [hcl]; clear hcl
        go_enter Try.func13, Try.ntmps13
        go_wp2
        go_ret2
        exact ⟨rfl, by first | exact (bal (brf w) _) | exact ((bal (brf w) _).setCell (by simp) _) | exact (((bal (brf w) _).setCell (by simp) _).setCell (by simp) _).setCell (by simp) _⟩
  · by_cases h1 : v ≤ 9
    · have hcl : clsV v = 0 := by unfold clsV; rw [if_pos h1]
      unfold cntOf; rw [hcl]; clear hcl
      go_enter Try.func13, Try.ntmps13
      go_wp2
      go_ret2
      exact ⟨rfl, by first | exact (bal (brf w) _) | exact ((bal (brf w) _).setCell (by simp) _) | exact (((bal (brf w) _).setCell (by simp) _).setCell (by simp) _).setCell (by simp) _⟩
    · by_cases h2 : v ≤ 26
      · have hcl : clsV v = 1 := by unfold clsV; rw [if_neg h1, if_pos h2]
        unfold cntOf; rw [hcl]; clear hcl
        go_enter Try.func13, Try.ntmps13
        go_wp2
        go_ret2
        exact ⟨rfl, by first | exact (bal (brf w) _) | exact ((bal (brf w) _).setCell (by simp) _) | exact (((bal (brf w) _).setCell (by simp) _).setCell (by simp) _).setCell (by simp) _⟩
      · have hcl : clsV v = 2 := by unfold clsV; rw [if_neg h1, if_neg h2]
        unfold cntOf; rw [hcl]; clear hcl
        go_enter Try.func13, Try.ntmps13
        go_wp2
        go_ret2
        exact ⟨rfl, by first | exact (bal (brf w) _) | exact ((bal (brf w) _).setCell (by simp) _) | exact (((bal (brf w) _).setCell (by simp) _).setCell (by simp) _).setCell (by simp) _⟩
  · by_cases h1 : v ≤ 9
    · have hcl : clsV v = 0 := by unfold clsV; rw [if_pos h1]
      unfold cntOf; rw [hcl]; clear hcl
      go_enter Try.func13, Try.ntmps13
      go_wp2
      go_ret2
      exact ⟨rfl, by first | exact (bal (brf w) _) | exact ((bal (brf w) _).setCell (by simp) _) | exact (((bal (brf w) _).setCell (by simp) _).setCell (by simp) _).setCell (by simp) _⟩
    · by_cases h2 : v ≤ 26
      · have hcl : clsV v = 1 := by unfold clsV; rw [if_neg h1, if_pos h2]
        unfold cntOf; rw [hcl]; clear hcl
        go_enter Try.func13, Try.ntmps13
        go_wp2
        go_ret2
        exact ⟨rfl, by first | exact (bal (brf w) _) | exact ((bal (brf w) _).setCell (by simp) _) | exact (((bal (brf w) _).setCell (by simp) _).setCell (by simp) _).setCell (by simp) _⟩
      · have hcl : clsV v = 2 := by unfold clsV; rw [if_neg h1, if_neg h2]
        unfold cntOf; rw [hcl]; clear hcl
        go_enter Try.func13, Try.ntmps13
        go_wp2
        go_ret2
        exact ⟨rfl, by first | exact (bal (brf w) _) | exact ((bal (brf w) _).setCell (by simp) _) | exact (((bal (brf w) _).setCell (by simp) _).setCell (by simp) _).setCell (by simp) _⟩
  · by_cases h1 : v ≤ 9
    · have hcl : clsV v = 0 := by unfold clsV; rw [if_pos h1]
      unfold cntOf; rw [hcl]; clear hcl
      go_enter Try.func13, Try.ntmps13
      go_wp2
      go_ret2
      exact ⟨rfl, by first | exact (bal (brf w) _) | exact ((bal (brf w) _).setCell (by simp) _) | exact (((bal (brf w) _).setCell (by simp) _).setCell (by simp) _).setCell (by simp) _⟩
    · by_cases h2 : v ≤ 26
      · have hcl : clsV v = 1 := by unfold clsV; rw [if_neg h1, if_pos h2]
        unfold cntOf; rw [hcl]; clear hcl
        go_enter Try.func13, Try.ntmps13
        go_wp2
        go_ret2
        exact ⟨rfl, by first | exact (bal (brf w) _) | exact ((bal (brf w) _).setCell (by simp) _) | exact (((bal (brf w) _).setCell (by simp) _).setCell (by simp) _).setCell (by simp) _⟩
      · have hcl : clsV v = 2 := by unfold clsV; rw [if_neg h1, if_neg h2]
        unfold cntOf; rw [hcl]; clear hcl
        go_enter Try.func13, Try.ntmps13
        go_wp2
        go_ret2
        exact ⟨rfl, by first | exact (bal (brf w) _) | exact ((bal (brf w) _).setCell (by simp) _) | exact (((bal (brf w) _).setCell (by simp) _).setCell (by simp) _).setCell (by simp) _⟩
  · by_cases h1 : v ≤ 9
    · have hcl : clsV v = 0 := by unfold clsV; rw [if_pos h1]
      unfold cntOf; rw [hcl]; clear hcl
      go_enter Try.func13, Try.ntmps13
      go_wp2
      go_ret2
      exact ⟨rfl, by first | exact (bal (brf w) _) | exact ((bal (brf w) _).setCell (by simp) _) | exact (((bal (brf w) _).setCell (by simp) _).setCell (by simp) _).setCell (by simp) _⟩
    · by_cases h2 : v ≤ 26
      · have hcl : clsV v = 1 := by unfold clsV; rw [if_neg h1, if_pos h2]
        unfold cntOf; rw [hcl]; clear hcl
        go_enter Try.func13, Try.ntmps13
        go_wp2
        go_ret2
        exact ⟨rfl, by first | exact (bal (brf w) _) | exact ((bal (brf w) _).setCell (by simp) _) | exact (((bal (brf w) _).setCell (by simp) _).setCell (by simp) _).setCell (by simp) _⟩
      · have hcl : clsV v = 2 := by unfold clsV; rw [if_neg h1, if_neg h2]
        unfold cntOf; rw [hcl]; clear hcl
        go_enter Try.func13, Try.ntmps13
        go_wp2
        go_ret2
        exact ⟨rfl, by first | exact (bal (brf w) _) | exact ((bal (brf w) _).setCell (by simp) _) | exact (((bal (brf w) _).setCell (by simp) _).setCell (by simp) _).setCell (by simp) _⟩
  · by_cases h1 : v ≤ 9
    · have hcl : clsV v = 0 := by unfold clsV; rw [if_pos h1]
      unfold cntOf; rw [hcl]; clear hcl
      go_enter Try.func13, Try.ntmps13
      go_wp2
      go_ret2
      exact ⟨rfl, by first | exact (bal (brf w) _) | exact ((bal (brf w) _).setCell (by simp) _) | exact (((bal (brf w) _).setCell (by simp) _).setCell (by simp) _).setCell (by simp) _⟩
    · by_cases h2 : v ≤ 26
      · have hcl : clsV v = 1 := by unfold clsV; rw [if_neg h1, if_pos h2]
        unfold cntOf; rw [hcl]; clear hcl
        go_enter Try.func13, Try.ntmps13
        go_wp2
        go_ret2
        exact ⟨rfl, by first | exact (bal (brf w) _) | exact ((bal (brf w) _).setCell (by simp) _) | exact (((bal (brf w) _).setCell (by simp) _).setCell (by simp) _).setCell (by simp) _⟩
      · have hcl : clsV v = 2 := by unfold clsV; rw [if_neg h1, if_neg h2]
        unfold cntOf; rw [hcl]; clear hcl
        go_enter Try.func13, Try.ntmps13
        go_wp2
        go_ret2
        exact ⟨rfl, by first | exact (bal (brf w) _) | exact ((bal (brf w) _).setCell (by simp) _) | exact (((bal (brf w) _).setCell (by simp) _).setCell (by simp) _).setCell (by simp) _⟩
  · by_cases h1 : v ≤ 9
    · have hcl : clsV v = 0 := by unfold clsV; rw [if_pos h1]
      unfold cntOf; rw [hcl]; clear hcl
      go_enter Try.func13, Try.ntmps13
      go_wp2
      go_ret2
      exact ⟨rfl, by first | exact (bal (brf w) _) | exact ((bal (brf w) _).setCell (by simp) _) | exact (((bal (brf w) _).setCell (by simp) _).setCell (by simp) _).setCell (by simp) _⟩
    · by_cases h2 : v ≤ 26
      · have hcl : clsV v = 1 := by unfold clsV; rw [if_neg h1, if_pos h2]
        unfold cntOf; rw [hcl]; clear hcl
        go_enter Try.func13, Try.ntmps13
        go_wp2
        go_ret2
        exact ⟨rfl, by first | exact (bal (brf w) _) | exact ((bal (brf w) _).setCell (by simp) _) | exact (((bal (brf w) _).setCell (by simp) _).setCell (by simp) _).setCell (by simp) _⟩
      · have hcl : clsV v = 2 := by unfold clsV; rw [if_neg h1, if_neg h2]
        unfold cntOf; rw [hcl]; clear hcl
        go_enter Try.func13, Try.ntmps13
        go_wp2
        go_ret2
        exact ⟨rfl, by first | exact (bal (brf w) _) | exact ((bal (brf w) _).setCell (by simp) _) | exact (((bal (brf w) _).setCell (by simp) _).setCell (by simp) _).setCell (by simp) _⟩
  · by_cases h1 : v ≤ 9
    · have hcl : clsV v = 0 := by unfold clsV; rw [if_pos h1]
      unfold cntOf; rw [hcl]; clear hcl
      go_enter Try.func13, Try.ntmps13
      go_wp2
      go_ret2
      exact ⟨rfl, by first | exact (bal (brf w) _) | exact ((bal (brf w) _).setCell (by simp) _) | exact (((bal (brf w) _).setCell (by simp) _).setCell (by simp) _).setCell (by simp) _⟩
    · by_cases h2 : v ≤ 26
      · have hcl : clsV v = 1 := by unfold clsV; rw [if_neg h1, if_pos h2]
        unfold cntOf; rw [hcl]; clear hcl
        go_enter Try.func13, Try.ntmps13
        go_wp2
        go_ret2
        exact ⟨rfl, by first | exact (bal (brf w) _) | exact ((bal (brf w) _).setCell (by simp) _) | exact (((bal (brf w) _).setCell (by simp) _).setCell (by simp) _).setCell (by simp) _⟩
      · have hcl : clsV v = 2 := by unfold clsV; rw [if_neg h1, if_neg h2]
        unfold cntOf; rw [hcl]; clear hcl
        go_enter Try.func13, Try.ntmps13
        go_wp2
        go_ret2
        exact ⟨rfl, by first | exact (bal (brf w) _) | exact ((bal (brf w) _).setCell (by simp) _) | exact (((bal (brf w) _).setCell (by simp) _).setCell (by simp) _).setCell (by simp) _⟩

/-! ### the law -/
theorem qrVersion_any (n : Nat) (w : World) (hn : n < 256) : Calls Try.prog 4 #[.int .u8 n] w fun e w' => e = .returned (.int .i64 ((1 + n % 40 : Nat) : Int)) ∧ w' = w := by
  go_enter Try.func4, Try.ntmps4
  go_wp2
  go_ret
  exact ⟨ret_int (by omega), rfl⟩
end Go.Proofs.Ytjkfkkenaiodoaa
