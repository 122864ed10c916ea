/-
  WALKS: how many combinations there are, as the package counts them.
-/
import Derived.Test.YtknipefcihkofaaBase
namespace Go.Proofs.Ytknipefcihkofaa
open Go.RowKit

/-- Combinations, as the package counts them. -/
def ch (a : Nat) : Nat → Nat
  | 0 => 1
  | t + 1 => ch a t * (a - t) / (t + 1)
theorem ch_le (a t : Nat) (ha : a ≤ 60) : ch a t ≤ 60 ^ t := by
  induction t with
  | zero => exact Nat.le_refl _
  | succ t ih =>
    unfold ch
    have h1 : ch a t * (a - t) / (t + 1) ≤ ch a t * (a - t) := Nat.div_le_self _ _
    have h2 : ch a t * (a - t) ≤ 60 ^ t * 60 := Nat.mul_le_mul ih (by omega)
    rw [Nat.pow_succ]; omega
theorem ch_bound (a t : Nat) (ha : a ≤ 60) (ht : t ≤ 4) : ch a t ≤ 12960000 :=
  Nat.le_trans (ch_le a t ha) (Nat.pow_le_pow_right (n := 60) (i := t) (j := 4) (by decide) ht)

theorem combins_any (a b : Nat) (w : World) (hb : b ≤ 4) (hba : b ≤ a) (ha : a ≤ 60) :
    Calls Try.prog 26 #[.int .i64 a, .int .i64 b] w fun e w' => e = .returned (.int .i64 (ch a b : Nat)) ∧ w' = w := by
  have hsub : (a : Int) - (b : Int) = ((a - b : Nat) : Int) := by omega
  by_cases hg : b < a - b
  all_goals
    go_enter Try.func26, Try.ntmps26
    go_wp2
    go_loop [7, 8, 9] (fun z j i => ∃ t v : Nat, t ≤ b ∧ v ≤ 12960000 ∧ i = .int .i64 ((a - t : Nat) : Int) ∧ j = .int .i64 ((t + 1 : Nat) : Int) ∧ z = .int .i64 v ∧ Hid (v = ch a t)) (fun _ _ i => (intOf i).toNat)
    case atStart => exact ⟨0, 1, by omega, by omega, rfl, rfl, rfl, Lib.hid rfl⟩
    case round =>
      obtain ⟨t, v, ht, hv, rfl, rfl, rfl, HV⟩ := hrel
      by_cases hlt : t < b
      · have HS : Hid (ch a (t + 1) = v * (a - t) / (t + 1)) := Lib.hid (by rw [HV.out]; rfl)
        have hbd := ch_bound a (t + 1) ha (by omega)
        rw [HS.out] at hbd
        have e1 : (v : Int) * ((a - t : Nat) : Int) = ((v * (a - t) : Nat) : Int) := by simp
        have hm : v * (a - t) ≤ 12960000 * 60 := Nat.mul_le_mul hv (by omega)
        generalize v * (a - t) = m at *
        have e2 : (m : Int) / ((t : Int) + 1) = ((m / (t + 1) : Nat) : Int) := by simp
        generalize m / (t + 1) = y at *
        have hit : ((a - t : Nat) : Int) - 1 = ((a - (t + 1) : Nat) : Int) := by omega
        have hij : a - b < a - t := by omega
        have hi60 : a - t ≤ 60 := by omega
        have hi2 : a - (t + 1) + 1 = a - t := by omega
        have hj1 : t + 1 ≤ b := by omega
        have hj0 : 0 < t + 1 := by omega
        have HJ : Hid (t + 1 ≤ b ∧ a - (t + 1) + 1 = a - t) := Lib.hid ⟨hj1, hi2⟩
        clear hi2
        go_wp2
        go_round
        case rel => exact ⟨t + 1, y, HJ.out.1, hbd, by first | rfl | go_num, by first | rfl | go_num, rfl, Lib.hid (by rw [HS.out])⟩
        case measure => simp [intOf]; have := HJ.out; omega
      · obtain rfl : t = b := by omega
        go_wp2
        go_loop [7, 8] (fun z j => z = .int .i64 v ∧ j = .int .i64 ((t + 1 : Nat) : Int)) (fun _ _ => 0)
        case atStart => exact ⟨rfl, rfl⟩
        case round =>
          obtain ⟨rfl, rfl⟩ := hrel
          go_wp2
          go_ret
          exact ⟨ret_int (by rw [HV.out]), rfl⟩
end Go.Proofs.Ytknipefcihkofaa
