/-
  WALK: encoder.isWhiteVertical.
-/
import Derived.Test.YtibnfgmhnmkfeaaPf5
namespace Go.Proofs.Ytibnfgmhnmkfeaa
open Go.RowKit

theorem RowsV.at_ {w : World} {T1 T2 : TypeId} {v : Value} {n : Nat} {F : Nat → List Value} (h : RowsV w T1 T2 v n F) (h0 : 0 < n) :
    ∃ b o cap, v = .slice (some ⟨b, o, none⟩) n cap ∧ n ≤ cap ∧ cap ≤ 9223372036854775807 ∧
      Hid (∀ i, i < n → ∃ u, w.cell? ⟨b, o + i, none⟩ = some u ∧ RdT w T2 u (F i)) := by
  obtain ⟨vs, h1, h2, h3⟩ := h
  obtain ⟨A, cap, hv, k1, k2, k3⟩ := h1.rd
  rw [h2] at hv k1 k3
  obtain ⟨b, o, rfl, _, hc⟩ := k3 h0
  unfold maxLen at k2
  refine ⟨b, o, cap, hv, k1, by omega, fun i hi => ⟨vs[i]'(by omega), hc i _ (List.getElem?_eq_getElem (by omega)), ?_⟩⟩
  have := h3 i hi
  rwa [List.getD, List.getElem?_eq_getElem (by omega), Option.getD_some] at this
/-- A row's cell: where it lies. -/
theorem RowsV.cell {w : World} {n : Nat} {f : Nat → Nat → Bool} {u : Value} {i : Nat} (h : RdT w 73 u (i8v (rowF n f i))) (h0 : 0 < n) :
    ∃ b o c, u = .slice (some ⟨b, o, none⟩) n c ∧ n ≤ c ∧ c ≤ 9223372036854775807 ∧ Hid (∀ j, j < n → w.cell? ⟨b, o + j, none⟩ = some (.int .i8 (if f j i = true then 1 else 0))) := by
  obtain ⟨b, o, c, rfl, m1, m2, HC⟩ := row8_at h (by rw [rowF_len]; exact h0)
  rw [rowF_len] at m1 HC ⊢
  exact ⟨b, o, c, rfl, m1, m2, fun j hj => by rw [HC.out j hj, rowF_getD n f i j hj]⟩
set_option maxRecDepth 100000 in
theorem whiteV_any (v : Value) (f : Nat → Nat → Bool) (g : Nat → Bool) (n col : Nat) (a to : Int) (w : World) (hv : RowsV w 72 73 v n (fun i => i8v (rowF n f i))) (hg : ∀ j, j < n → f col j = g j) (h0 : 0 < n) (hcol : col < n) (ha : -4 ≤ a) (hb : a ≤ 100) (hto : to = a + 4) :
    Calls Try.prog 78 #[v, .int .i64 (col : Int), .int .i64 a, .int .i64 to] w fun e w' => e = .returned (.bool (lightB g n a true)) ∧ w' = w := by
  obtain ⟨b, o, c, rfl, m1, m2, HC⟩ := hv.at_ h0
  have HG := Lib.hid hg
  clear hv hg
  by_cases hneg : a < 0
  · by_cases hgt : (n : Int) < to
    · go_enter Try.func78, Try.ntmps78
      go_wp2_with fail
      go_loopw [9] (fun iv wr => ∃ i : Int, (0 : Int) ≤ i ∧ (i ≤ (n : Int) ∨ i = (0 : Int)) ∧ iv = .int .i64 i ∧ Hid (∀ j : Int, (0 : Int) ≤ j → j < i → litB g n true j = true) ∧ wr = w) (fun iv _ => ((n : Int) - intOf iv).toNat)
      case atStart => exact ⟨(0 : Int), Int.le_refl _, .inr rfl, rfl, Lib.hid (fun j h1 h2 => by omega), rfl⟩
      case round =>
        obtain ⟨i, hi1, hi2, rfl, HJ, rfl⟩ := hrel
        by_cases hlt : i < (n : Int)
        · obtain ⟨k, rfl⟩ := Int.eq_ofNat_of_zero_le (show 0 ≤ i by omega)
          have hk : k < n := by omega
          obtain ⟨u, cu, hu⟩ := HC.out k hk
          obtain ⟨b2, o2, c2, rfl, m3, m4, HCR⟩ := RowsV.cell hu (by omega)
          have r1 := HCR.out col hcol
          rw [HG.out k hk] at r1
          clear hu
          have hL := lit_in g n k hk
          cases hq : g k
          · rw [hq] at r1 hL
            have HS : Hid (∀ j : Int, (0 : Int) ≤ j → j < (k : Int) + 1 → litB g n true j = true) := Lib.hid (fun j h1 h2 => by
              by_cases hji : j < (k : Int)
              · exact HJ.out j h1 hji
              · obtain rfl : j = (k : Int) := by omega
                exact hL)
            rw [if_neg (by decide)] at r1
            clear hq hL
            go_wp2
            go_roundw
            case rel => exact ⟨(k : Int) + 1, by omega, by omega, rfl, HS, trivial⟩
            case measure => simp [intOf]; omega
          · rw [hq] at r1 hL
            have HS : Hid (lightB g n a true = false) := Lib.hid (lightB_not (i := (k : Int)) (by omega) (by omega) hL)
            rw [if_pos rfl] at r1
            clear hq hL
            go_wp2
            go_ret
            exact ⟨ret_bool HS.out.symm, rfl⟩
        · have HS : Hid (lightB g n a true = true) := Lib.hid (light_cut g n a (0 : Int) (n : Int) (by omega) (by omega) (fun j h1 h2 => HJ.out j h1 (by omega)))
          go_wp2
          go_ret
          exact ⟨ret_bool HS.out.symm, rfl⟩
    · go_enter Try.func78, Try.ntmps78
      go_wp2_with fail
      go_loopw [9] (fun iv wr => ∃ i : Int, (0 : Int) ≤ i ∧ (i ≤ to ∨ i = (0 : Int)) ∧ iv = .int .i64 i ∧ Hid (∀ j : Int, (0 : Int) ≤ j → j < i → litB g n true j = true) ∧ wr = w) (fun iv _ => (to - intOf iv).toNat)
      case atStart => exact ⟨(0 : Int), Int.le_refl _, .inr rfl, rfl, Lib.hid (fun j h1 h2 => by omega), rfl⟩
      case round =>
        obtain ⟨i, hi1, hi2, rfl, HJ, rfl⟩ := hrel
        by_cases hlt : i < to
        · obtain ⟨k, rfl⟩ := Int.eq_ofNat_of_zero_le (show 0 ≤ i by omega)
          have hk : k < n := by omega
          obtain ⟨u, cu, hu⟩ := HC.out k hk
          obtain ⟨b2, o2, c2, rfl, m3, m4, HCR⟩ := RowsV.cell hu (by omega)
          have r1 := HCR.out col hcol
          rw [HG.out k hk] at r1
          clear hu
          have hL := lit_in g n k hk
          cases hq : g k
          · rw [hq] at r1 hL
            have HS : Hid (∀ j : Int, (0 : Int) ≤ j → j < (k : Int) + 1 → litB g n true j = true) := Lib.hid (fun j h1 h2 => by
              by_cases hji : j < (k : Int)
              · exact HJ.out j h1 hji
              · obtain rfl : j = (k : Int) := by omega
                exact hL)
            rw [if_neg (by decide)] at r1
            clear hq hL
            go_wp2
            go_roundw
            case rel => exact ⟨(k : Int) + 1, by omega, by omega, rfl, HS, trivial⟩
            case measure => simp [intOf]; omega
          · rw [hq] at r1 hL
            have HS : Hid (lightB g n a true = false) := Lib.hid (lightB_not (i := (k : Int)) (by omega) (by omega) hL)
            rw [if_pos rfl] at r1
            clear hq hL
            go_wp2
            go_ret
            exact ⟨ret_bool HS.out.symm, rfl⟩
        · have HS : Hid (lightB g n a true = true) := Lib.hid (light_cut g n a (0 : Int) to (by omega) (by omega) (fun j h1 h2 => HJ.out j h1 (by omega)))
          go_wp2
          go_ret
          exact ⟨ret_bool HS.out.symm, rfl⟩
  · by_cases hgt : (n : Int) < to
    · go_enter Try.func78, Try.ntmps78
      go_wp2_with fail
      go_loopw [9] (fun iv wr => ∃ i : Int, a ≤ i ∧ (i ≤ (n : Int) ∨ i = a) ∧ iv = .int .i64 i ∧ Hid (∀ j : Int, a ≤ j → j < i → litB g n true j = true) ∧ wr = w) (fun iv _ => ((n : Int) - intOf iv).toNat)
      case atStart => exact ⟨a, Int.le_refl _, .inr rfl, rfl, Lib.hid (fun j h1 h2 => by omega), rfl⟩
      case round =>
        obtain ⟨i, hi1, hi2, rfl, HJ, rfl⟩ := hrel
        by_cases hlt : i < (n : Int)
        · obtain ⟨k, rfl⟩ := Int.eq_ofNat_of_zero_le (show 0 ≤ i by omega)
          have hk : k < n := by omega
          obtain ⟨u, cu, hu⟩ := HC.out k hk
          obtain ⟨b2, o2, c2, rfl, m3, m4, HCR⟩ := RowsV.cell hu (by omega)
          have r1 := HCR.out col hcol
          rw [HG.out k hk] at r1
          clear hu
          have hL := lit_in g n k hk
          cases hq : g k
          · rw [hq] at r1 hL
            have HS : Hid (∀ j : Int, a ≤ j → j < (k : Int) + 1 → litB g n true j = true) := Lib.hid (fun j h1 h2 => by
              by_cases hji : j < (k : Int)
              · exact HJ.out j h1 hji
              · obtain rfl : j = (k : Int) := by omega
                exact hL)
            rw [if_neg (by decide)] at r1
            clear hq hL
            go_wp2
            go_roundw
            case rel => exact ⟨(k : Int) + 1, by omega, by omega, rfl, HS, trivial⟩
            case measure => simp [intOf]; omega
          · rw [hq] at r1 hL
            have HS : Hid (lightB g n a true = false) := Lib.hid (lightB_not (i := (k : Int)) (by omega) (by omega) hL)
            rw [if_pos rfl] at r1
            clear hq hL
            go_wp2
            go_ret
            exact ⟨ret_bool HS.out.symm, rfl⟩
        · have HS : Hid (lightB g n a true = true) := Lib.hid (light_cut g n a a (n : Int) (by omega) (by omega) (fun j h1 h2 => HJ.out j h1 (by omega)))
          go_wp2
          go_ret
          exact ⟨ret_bool HS.out.symm, rfl⟩
    · go_enter Try.func78, Try.ntmps78
      go_wp2_with fail
      go_loopw [9] (fun iv wr => ∃ i : Int, a ≤ i ∧ (i ≤ to ∨ i = a) ∧ iv = .int .i64 i ∧ Hid (∀ j : Int, a ≤ j → j < i → litB g n true j = true) ∧ wr = w) (fun iv _ => (to - intOf iv).toNat)
      case atStart => exact ⟨a, Int.le_refl _, .inr rfl, rfl, Lib.hid (fun j h1 h2 => by omega), rfl⟩
      case round =>
        obtain ⟨i, hi1, hi2, rfl, HJ, rfl⟩ := hrel
        by_cases hlt : i < to
        · obtain ⟨k, rfl⟩ := Int.eq_ofNat_of_zero_le (show 0 ≤ i by omega)
          have hk : k < n := by omega
          obtain ⟨u, cu, hu⟩ := HC.out k hk
          obtain ⟨b2, o2, c2, rfl, m3, m4, HCR⟩ := RowsV.cell hu (by omega)
          have r1 := HCR.out col hcol
          rw [HG.out k hk] at r1
          clear hu
          have hL := lit_in g n k hk
          cases hq : g k
          · rw [hq] at r1 hL
            have HS : Hid (∀ j : Int, a ≤ j → j < (k : Int) + 1 → litB g n true j = true) := Lib.hid (fun j h1 h2 => by
              by_cases hji : j < (k : Int)
              · exact HJ.out j h1 hji
              · obtain rfl : j = (k : Int) := by omega
                exact hL)
            rw [if_neg (by decide)] at r1
            clear hq hL
            go_wp2
            go_roundw
            case rel => exact ⟨(k : Int) + 1, by omega, by omega, rfl, HS, trivial⟩
            case measure => simp [intOf]; omega
          · rw [hq] at r1 hL
            have HS : Hid (lightB g n a true = false) := Lib.hid (lightB_not (i := (k : Int)) (by omega) (by omega) hL)
            rw [if_pos rfl] at r1
            clear hq hL
            go_wp2
            go_ret
            exact ⟨ret_bool HS.out.symm, rfl⟩
        · have HS : Hid (lightB g n a true = true) := Lib.hid (light_cut g n a a to (by omega) (by omega) (fun j h1 h2 => HJ.out j h1 (by omega)))
          go_wp2
          go_ret
          exact ⟨ret_bool HS.out.symm, rfl⟩
end Go.Proofs.Ytibnfgmhnmkfeaa
