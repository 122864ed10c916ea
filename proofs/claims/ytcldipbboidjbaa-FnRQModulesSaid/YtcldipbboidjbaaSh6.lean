/-
  WALKS: the standard's numbers (spec) of a version: room, words, sizes of blocks.
-/
import Derived.Test.YtcldipbboidjbaaSh5
namespace Go.Proofs.Ytcldipbboidjbaa
open Go.RowKit

/-- How many modules carry data. -/
def roomF (N2 n M2 m : Int) (a b : Bool) : Int := N2 - 192 - 2 * (n - 16) - 31 - (if a then 36 else 0) - (if b then 25 * (M2 - 3) - 10 * (m - 2) else 0)
def roomZ (v : Nat) : Int := roomF ((17 + 4 * v) * (17 + 4 * v) : Nat) (17 + 4 * v : Nat) ((cenOf v).length * (cenOf v).length : Nat) ((cenOf v).length : Nat) (decide (7 ≤ v)) (decide (0 < (cenOf v).length))
def roomOkB (v : Nat) : Bool := decide (0 ≤ roomZ v) && decide (roomZ v ≤ 40000) && decide (roomZ v / 8 = (totOf v : Nat)) && decide ((cenOf v).length ≤ 7)
theorem roomOk_all : ((List.range 40).all fun v => roomOkB (v + 1)) = true := by kernel_rfl
theorem roomOk {v : Nat} (h1 : 1 ≤ v) (h2 : v ≤ 40) : 0 ≤ roomZ v ∧ roomZ v ≤ 40000 ∧ roomZ v / 8 = (totOf v : Nat) ∧ (cenOf v).length ≤ 7 := by
  have h := List.all_eq_true.1 roomOk_all (v - 1) (List.mem_range.2 (by omega))
  rw [Nat.sub_add_cancel h1] at h
  unfold roomOkB at h
  simp only [Bool.and_eq_true, decide_eq_true_eq] at h
  exact ⟨h.1.1.1, h.1.1.2, h.1.2, h.2⟩
set_option maxRecDepth 100000 in
set_option maxHeartbeats 2000000 in
theorem specRoom_any (v : Nat) (w : World) (h1 : 1 ≤ v) (h2 : v ≤ 40) : Calls Try.prog 42 #[.int .i64 (v : Nat)] w fun e w' => e = .returned (.int .i64 (roomZ v)) ∧ Below w.heap.size w w' := by
  obtain ⟨-, -, -, h7⟩ := roomOk h1 h2
  obtain ⟨n, hn⟩ : ∃ n, n = 17 + 4 * v := ⟨_, rfl⟩
  obtain ⟨m, hm⟩ : ∃ m, m = (cenOf v).length := ⟨_, rfl⟩
  obtain ⟨N2, hN2⟩ : ∃ N2, N2 = n * n := ⟨_, rfl⟩
  obtain ⟨M2, hM2⟩ : ∃ M2, M2 = m * m := ⟨_, rfl⟩
  have bn : n ≤ 177 := by omega
  have bN2 : N2 ≤ 177 * 177 := by rw [hN2]; exact Nat.mul_le_mul bn bn
  rw [← hm] at h7
  have bM2 : M2 ≤ 7 * 7 := by rw [hM2]; exact Nat.mul_le_mul h7 h7
  have HRO : Hid (roomZ v = roomF (N2 : Nat) (n : Nat) (M2 : Nat) (m : Nat) (decide (7 ≤ v)) (decide (0 < m))) := Lib.hid (by unfold roomZ; rw [← hm, ← hn, ← hN2, ← hM2])
  have HN := Lib.hid hn; have HM := Lib.hid hm
  have sN2 : wrap64 ((n : Int) * (n : Int)) = (N2 : Int) := by
    have : (n : Int) * (n : Int) = (N2 : Int) := by rw [hN2]; simp
    rw [this]; clear hN2 hM2; unfold wrap64; omega
  have sM2 : wrap64 ((m : Int) * (m : Int)) = (M2 : Int) := by
    have : (m : Int) * (m : Int) = (M2 : Int) := by rw [hM2]; simp
    rw [this]; clear hN2 hM2 sN2; unfold wrap64; omega
  have HS := Lib.hid (And.intro sN2 sM2)
  clear hn hm hN2 hM2 sN2 sM2
  go_enter Try.func42, Try.ntmps42
  go_wp2_with fail
  refine (specDim_any v w h2).mono ?_
  rintro e w ⟨rfl, rfl⟩
  rw [← HN.out]
  go_wp2_with fail
  refine (specCen_any v w h1 h2).mono ?_
  rintro e w1 ⟨s, rfl, hr, hb⟩
  obtain ⟨A, c, rfl, -, -, -⟩ := hr
  rw [nvl_len, ← HM.out]
  have HB := Lib.hid hb
  clear hb
  have hv7 : 7 ≤ v ∨ ¬ 7 ≤ v := by omega
  rcases hv7 with h | h
  · by_cases hm0 : 0 < m
    · have e7 : decide (7 ≤ v) = true := decide_eq_true h
      have e0 : decide (0 < m) = true := decide_eq_true hm0
      rw [e7, e0] at HRO
      have g7 : (7 : Int) ≤ (v : Int) := by omega
      have g0 : (0 : Int) < (m : Int) := by omega
      clear e7 e0
      have sN2 := HS.out.1; have sM2 := HS.out.2
      go_wp2
      go_ret
      refine ⟨ret_int ?_, HB.out⟩
      rw [HRO.out]
      clear sN2 sM2
      show _ = (N2 : Int) - 192 - 2 * ((n : Int) - 16) - 31 - 36 - (25 * ((M2 : Int) - 3) - 10 * ((m : Int) - 2))
      omega
    · have e7 : decide (7 ≤ v) = true := decide_eq_true h
      have e0 : decide (0 < m) = false := decide_eq_false hm0
      rw [e7, e0] at HRO
      have g7 : (7 : Int) ≤ (v : Int) := by omega
      have g0 : ¬ (0 : Int) < (m : Int) := by omega
      clear e7 e0
      have sN2 := HS.out.1; have sM2 := HS.out.2
      go_wp2
      go_ret
      refine ⟨ret_int ?_, HB.out⟩
      rw [HRO.out]
      clear sN2 sM2
      show _ = (N2 : Int) - 192 - 2 * ((n : Int) - 16) - 31 - 36 - (0)
      omega
  · by_cases hm0 : 0 < m
    · have e7 : decide (7 ≤ v) = false := decide_eq_false h
      have e0 : decide (0 < m) = true := decide_eq_true hm0
      rw [e7, e0] at HRO
      have g7 : ¬ (7 : Int) ≤ (v : Int) := by omega
      have g0 : (0 : Int) < (m : Int) := by omega
      clear e7 e0
      have sN2 := HS.out.1; have sM2 := HS.out.2
      go_wp2
      go_ret
      refine ⟨ret_int ?_, HB.out⟩
      rw [HRO.out]
      clear sN2 sM2
      show _ = (N2 : Int) - 192 - 2 * ((n : Int) - 16) - 31 - 0 - (25 * ((M2 : Int) - 3) - 10 * ((m : Int) - 2))
      omega
    · have e7 : decide (7 ≤ v) = false := decide_eq_false h
      have e0 : decide (0 < m) = false := decide_eq_false hm0
      rw [e7, e0] at HRO
      have g7 : ¬ (7 : Int) ≤ (v : Int) := by omega
      have g0 : ¬ (0 : Int) < (m : Int) := by omega
      clear e7 e0
      have sN2 := HS.out.1; have sM2 := HS.out.2
      go_wp2
      go_ret
      refine ⟨ret_int ?_, HB.out⟩
      rw [HRO.out]
      clear sN2 sM2
      show _ = (N2 : Int) - 192 - 2 * ((n : Int) - 16) - 31 - 0 - (0)
      omega
theorem specTot_any (v : Nat) (w : World) (h1 : 1 ≤ v) (h2 : v ≤ 40) : Calls Try.prog 23 #[.int .i64 (v : Nat)] w fun e w' => e = .returned (.int .i64 (totOf v : Nat)) ∧ Below w.heap.size w w' := by
  obtain ⟨g0, g1, g2, -⟩ := roomOk h1 h2
  have HC := Lib.hid (specRoom_any v w h1 h2)
  generalize roomZ v = z at *
  generalize totOf v = t at *
  go_enter Try.func23, Try.ntmps23
  go_wp2_with fail
  refine (HC.out).mono ?_
  rintro e w1 ⟨rfl, hb⟩
  have HB := Lib.hid hb
  clear hb
  go_wp2
  go_ret
  exact ⟨ret_int g2, HB.out⟩
/-- Sizes of blocks. -/
def sizI (T B ec i : Nat) : Nat := T / B - ec + (if B - T % B ≤ i then 1 else 0)
def sizS (v l : Nat) : List Nat := (List.range (numOf v l)).map (sizI (totOf v) (numOf v l) (ecOf v l))
def sizOkB (v l : Nat) : Bool := decide (0 < numOf v l) && decide (numOf v l ≤ 100) && decide (ecOf v l ≤ totOf v / numOf v l) && decide (totOf v ≤ 5000)
theorem sizOk_all : ((List.range 40).all fun v => (List.range 4).all fun l => sizOkB (v + 1) l) = true := by kernel_rfl
theorem sizOk {v l : Nat} (h1 : 1 ≤ v) (h2 : v ≤ 40) (hl : l < 4) : 0 < numOf v l ∧ numOf v l ≤ 100 ∧ ecOf v l ≤ totOf v / numOf v l ∧ totOf v ≤ 5000 := by
  have h := List.all_eq_true.1 (List.all_eq_true.1 sizOk_all (v - 1) (List.mem_range.2 (by omega))) l (List.mem_range.2 hl)
  rw [Nat.sub_add_cancel h1] at h
  unfold sizOkB at h
  simp only [Bool.and_eq_true, decide_eq_true_eq] at h
  exact ⟨h.1.1.1, h.1.1.2, h.1.2, h.2⟩
theorem sizS_len (v l : Nat) : (sizS v l).length = numOf v l := by simp [sizS]
end Go.Proofs.Ytcldipbboidjbaa
