/-
  WALKS: encoder.isWhiteHorizontal, encoder.isWhiteVertical.
-/
import Derived.Test.YtibnfgmhnmkfeaaPf4
namespace Go.Proofs.Ytibnfgmhnmkfeaa
open Go.RowKit

theorem i8v_cell (l : List Bool) (i : Nat) (h : i < l.length) : (i8v l)[i]? = some (.int .i8 (if l.getD i false = true then 1 else 0)) := by
  simp [i8v, List.getD, h]
theorem row8_at {w : World} {v : Value} {l : List Bool} (h : RdT w 73 v (i8v l)) (h0 : 0 < l.length) :
    ∃ b o c, v = .slice (some ⟨b, o, none⟩) l.length c ∧ l.length ≤ c ∧ c ≤ 9223372036854775807 ∧ Hid (∀ j, j < l.length → w.cell? ⟨b, o + j, none⟩ = some (.int .i8 (if l.getD j false = true then 1 else 0))) := by
  obtain ⟨A, c, hv, k1, k2, k3⟩ := h.rd
  rw [i8v_len] at hv k1 k3
  obtain ⟨b, o, rfl, _, hc⟩ := k3 h0
  unfold maxLen at k2
  exact ⟨b, o, c, hv, k1, by omega, fun j hj => hc j _ (i8v_cell l j hj)⟩
theorem lit_in (g : Nat → Bool) (n k : Nat) (h : k < n) : litB g n true (k : Int) = !(g k) := by
  unfold litB; rw [if_pos ⟨by omega, by omega⟩]; rfl
theorem lit_out (g : Nat → Bool) (n : Nat) (i : Int) (h : ¬ (0 ≤ i ∧ i < (n : Int))) : litB g n true i = true := by
  unfold litB; rw [if_neg h]
/-- What is light between two places, both cut to the side. -/
theorem light_cut (g : Nat → Bool) (n : Nat) (a lo hi : Int) (hlo : lo = max 0 a) (hhi : hi = min (n : Int) (a + 4)) (h : ∀ j : Int, lo ≤ j → j < hi → litB g n true j = true) : lightB g n a true = true :=
  (lightB_iff g n a true).2 (fun i h1 h2 => by
    by_cases hin : 0 ≤ i ∧ i < (n : Int)
    · exact h i (by omega) (by omega)
    · exact lit_out g n i hin)
set_option maxRecDepth 100000 in
theorem whiteH_any (v : Value) (l : List Bool) (g : Nat → Bool) (n : Nat) (a to : Int) (w : World) (hv : RdT w 73 v (i8v l)) (hl : l.length = n) (hg : ∀ j, j < n → l.getD j false = g j) (h0 : 0 < n) (hn : n ≤ 60) (ha : -4 ≤ a) (hb : a ≤ 100) (hto : to = a + 4) :
    Calls Try.prog 77 #[v, .int .i64 a, .int .i64 to] w fun e w' => e = .returned (.bool (lightB g n a true)) ∧ w' = w := by
  obtain ⟨b, o, c, rfl, m1, m2, HC0⟩ := row8_at hv (by omega)
  rw [hl] at m1 HC0 ⊢
  have HC : Hid (∀ j, j < n → w.cell? ⟨b, o + j, none⟩ = some (.int .i8 (if g j = true then 1 else 0))) := Lib.hid (fun j hj => by rw [← hg j hj]; exact HC0.out j hj)
  clear hv hl hg HC0
  by_cases hneg : a < 0
  · by_cases hgt : (n : Int) < to
    · go_enter Try.func77, Try.ntmps77
      go_wp2_with fail
      go_loopw [7] (fun iv wr => ∃ i : Int, (0 : Int) ≤ i ∧ (i ≤ (n : Int) ∨ i = (0 : Int)) ∧ iv = .int .i64 i ∧ Hid (∀ j : Int, (0 : Int) ≤ j → j < i → litB g n true j = true) ∧ wr = w) (fun iv _ => ((n : Int) - intOf iv).toNat)
      case atStart => exact ⟨(0 : Int), Int.le_refl _, .inr rfl, rfl, Lib.hid (fun j h1 h2 => by omega), rfl⟩
      case round =>
        obtain ⟨i, hi1, hi2, rfl, HJ, rfl⟩ := hrel
        by_cases hlt : i < (n : Int)
        · obtain ⟨k, rfl⟩ := Int.eq_ofNat_of_zero_le (show 0 ≤ i by omega)
          have hk : k < n := by omega
          have r1 := HC.out k hk
          have hL := lit_in g n k hk
          cases hq : g k
          · rw [hq] at r1 hL
            have HS : Hid (∀ j : Int, (0 : Int) ≤ j → j < (k : Int) + 1 → litB g n true j = true) := Lib.hid (fun j h1 h2 => by
              by_cases hji : j < (k : Int)
              · exact HJ.out j h1 hji
              · obtain rfl : j = (k : Int) := by omega
                exact hL)
            rw [if_neg (by decide)] at r1
            clear hq hL
            go_wp2
            go_roundw
            case rel => exact ⟨(k : Int) + 1, by omega, by omega, rfl, HS, trivial⟩
            case measure => simp [intOf]; omega
          · rw [hq] at r1 hL
            have HS : Hid (lightB g n a true = false) := Lib.hid (lightB_not (i := (k : Int)) (by omega) (by omega) hL)
            rw [if_pos rfl] at r1
            clear hq hL
            go_wp2
            go_ret
            exact ⟨ret_bool HS.out.symm, rfl⟩
        · have HS : Hid (lightB g n a true = true) := Lib.hid (light_cut g n a (0 : Int) (n : Int) (by omega) (by omega) (fun j h1 h2 => HJ.out j h1 (by omega)))
          go_wp2
          go_ret
          exact ⟨ret_bool HS.out.symm, rfl⟩
    · go_enter Try.func77, Try.ntmps77
      go_wp2_with fail
      go_loopw [7] (fun iv wr => ∃ i : Int, (0 : Int) ≤ i ∧ (i ≤ to ∨ i = (0 : Int)) ∧ iv = .int .i64 i ∧ Hid (∀ j : Int, (0 : Int) ≤ j → j < i → litB g n true j = true) ∧ wr = w) (fun iv _ => (to - intOf iv).toNat)
      case atStart => exact ⟨(0 : Int), Int.le_refl _, .inr rfl, rfl, Lib.hid (fun j h1 h2 => by omega), rfl⟩
      case round =>
        obtain ⟨i, hi1, hi2, rfl, HJ, rfl⟩ := hrel
        by_cases hlt : i < to
        · obtain ⟨k, rfl⟩ := Int.eq_ofNat_of_zero_le (show 0 ≤ i by omega)
          have hk : k < n := by omega
          have r1 := HC.out k hk
          have hL := lit_in g n k hk
          cases hq : g k
          · rw [hq] at r1 hL
            have HS : Hid (∀ j : Int, (0 : Int) ≤ j → j < (k : Int) + 1 → litB g n true j = true) := Lib.hid (fun j h1 h2 => by
              by_cases hji : j < (k : Int)
              · exact HJ.out j h1 hji
              · obtain rfl : j = (k : Int) := by omega
                exact hL)
            rw [if_neg (by decide)] at r1
            clear hq hL
            go_wp2
            go_roundw
            case rel => exact ⟨(k : Int) + 1, by omega, by omega, rfl, HS, trivial⟩
            case measure => simp [intOf]; omega
          · rw [hq] at r1 hL
            have HS : Hid (lightB g n a true = false) := Lib.hid (lightB_not (i := (k : Int)) (by omega) (by omega) hL)
            rw [if_pos rfl] at r1
            clear hq hL
            go_wp2
            go_ret
            exact ⟨ret_bool HS.out.symm, rfl⟩
        · have HS : Hid (lightB g n a true = true) := Lib.hid (light_cut g n a (0 : Int) to (by omega) (by omega) (fun j h1 h2 => HJ.out j h1 (by omega)))
          go_wp2
          go_ret
          exact ⟨ret_bool HS.out.symm, rfl⟩
  · by_cases hgt : (n : Int) < to
    · go_enter Try.func77, Try.ntmps77
      go_wp2_with fail
      go_loopw [7] (fun iv wr => ∃ i : Int, a ≤ i ∧ (i ≤ (n : Int) ∨ i = a) ∧ iv = .int .i64 i ∧ Hid (∀ j : Int, a ≤ j → j < i → litB g n true j = true) ∧ wr = w) (fun iv _ => ((n : Int) - intOf iv).toNat)
      case atStart => exact ⟨a, Int.le_refl _, .inr rfl, rfl, Lib.hid (fun j h1 h2 => by omega), rfl⟩
      case round =>
        obtain ⟨i, hi1, hi2, rfl, HJ, rfl⟩ := hrel
        by_cases hlt : i < (n : Int)
        · obtain ⟨k, rfl⟩ := Int.eq_ofNat_of_zero_le (show 0 ≤ i by omega)
          have hk : k < n := by omega
          have r1 := HC.out k hk
          have hL := lit_in g n k hk
          cases hq : g k
          · rw [hq] at r1 hL
            have HS : Hid (∀ j : Int, a ≤ j → j < (k : Int) + 1 → litB g n true j = true) := Lib.hid (fun j h1 h2 => by
              by_cases hji : j < (k : Int)
              · exact HJ.out j h1 hji
              · obtain rfl : j = (k : Int) := by omega
                exact hL)
            rw [if_neg (by decide)] at r1
            clear hq hL
            go_wp2
            go_roundw
            case rel => exact ⟨(k : Int) + 1, by omega, by omega, rfl, HS, trivial⟩
            case measure => simp [intOf]; omega
          · rw [hq] at r1 hL
            have HS : Hid (lightB g n a true = false) := Lib.hid (lightB_not (i := (k : Int)) (by omega) (by omega) hL)
            rw [if_pos rfl] at r1
            clear hq hL
            go_wp2
            go_ret
            exact ⟨ret_bool HS.out.symm, rfl⟩
        · have HS : Hid (lightB g n a true = true) := Lib.hid (light_cut g n a a (n : Int) (by omega) (by omega) (fun j h1 h2 => HJ.out j h1 (by omega)))
          go_wp2
          go_ret
          exact ⟨ret_bool HS.out.symm, rfl⟩
    · go_enter Try.func77, Try.ntmps77
      go_wp2_with fail
      go_loopw [7] (fun iv wr => ∃ i : Int, a ≤ i ∧ (i ≤ to ∨ i = a) ∧ iv = .int .i64 i ∧ Hid (∀ j : Int, a ≤ j → j < i → litB g n true j = true) ∧ wr = w) (fun iv _ => (to - intOf iv).toNat)
      case atStart => exact ⟨a, Int.le_refl _, .inr rfl, rfl, Lib.hid (fun j h1 h2 => by omega), rfl⟩
      case round =>
        obtain ⟨i, hi1, hi2, rfl, HJ, rfl⟩ := hrel
        by_cases hlt : i < to
        · obtain ⟨k, rfl⟩ := Int.eq_ofNat_of_zero_le (show 0 ≤ i by omega)
          have hk : k < n := by omega
          have r1 := HC.out k hk
          have hL := lit_in g n k hk
          cases hq : g k
          · rw [hq] at r1 hL
            have HS : Hid (∀ j : Int, a ≤ j → j < (k : Int) + 1 → litB g n true j = true) := Lib.hid (fun j h1 h2 => by
              by_cases hji : j < (k : Int)
              · exact HJ.out j h1 hji
              · obtain rfl : j = (k : Int) := by omega
                exact hL)
            rw [if_neg (by decide)] at r1
            clear hq hL
            go_wp2
            go_roundw
            case rel => exact ⟨(k : Int) + 1, by omega, by omega, rfl, HS, trivial⟩
            case measure => simp [intOf]; omega
          · rw [hq] at r1 hL
            have HS : Hid (lightB g n a true = false) := Lib.hid (lightB_not (i := (k : Int)) (by omega) (by omega) hL)
            rw [if_pos rfl] at r1
            clear hq hL
            go_wp2
            go_ret
            exact ⟨ret_bool HS.out.symm, rfl⟩
        · have HS : Hid (lightB g n a true = true) := Lib.hid (light_cut g n a a to (by omega) (by omega) (fun j h1 h2 => HJ.out j h1 (by omega)))
          go_wp2
          go_ret
          exact ⟨ret_bool HS.out.symm, rfl⟩
end Go.Proofs.Ytibnfgmhnmkfeaa
