/-
  WALKS: what is left of a division by a polynomial over bits; the bits of the format; how many bits differ.
-/
import Derived.Test.YtcldipbboidjbaaOc
namespace Go.Proofs.Ytcldipbboidjbaa
open Go.RowKit

def restStep (p b x i : Nat) : Nat := if x / 2 ^ i % 2 = 1 then x ^^^ p * 2 ^ (i + 1 - b) else x
/-- Behind k rounds of qrRest. -/
def restK (p b x : Nat) : Nat → Nat
  | 0 => x
  | k + 1 => restStep p b (restK p b x k) (17 - k)
def restN (x p b : Nat) : Nat := restK p b x (19 - b)
theorem restStep_lt (p b x i : Nat) (hx : x < 262144) (hp : p < 2 ^ b) (hi : i ≤ 17) (hb : b ≤ i + 1) : restStep p b x i < 262144 := by
  unfold restStep
  split
  · have h1 : p * 2 ^ (i + 1 - b) < 2 ^ b * 2 ^ (i + 1 - b) := Nat.mul_lt_mul_of_pos_right hp (Nat.two_pow_pos _)
    rw [← Nat.pow_add] at h1
    have h2 : 2 ^ (b + (i + 1 - b)) ≤ 2 ^ 18 := Nat.pow_le_pow_right (by decide) (by omega)
    exact Nat.xor_lt_two_pow (n := 18) hx (by omega)
  · exact hx
theorem and_one (y : Nat) (hy : y < 9223372036854775808) : bits .and .i64 (y : Int) 1 = ((y % 2 : Nat) : Int) := by
  have h := i64_and y 1 hy (by decide)
  rw [Nat.and_one_is_mod] at h
  exact h
set_option maxRecDepth 100000 in
theorem qrRest_any (v p b : Nat) (w : World) (hv : v < 262144) (hp : p < 2 ^ b) (hb : 5 ≤ b) (hb2 : b ≤ 18) :
    Calls Try.prog 74 #[.int .i64 v, .int .i64 p, .int .i64 b] w fun e w' => e = .returned (.int .i64 (restN v p b : Nat)) ∧ w' = w := by
  have HP := Lib.hid hp
  have hpb : p < 262144 := Nat.lt_of_lt_of_le hp (Nat.pow_le_pow_right (n := 2) (j := 18) (by decide) hb2)
  clear hp
  go_enter Try.func74, Try.ntmps74
  go_wp2
  go_loop [0, 7] (fun vv iv => ∃ (x i : Nat), x < 262144 ∧ i ≤ 17 ∧ b ≤ i + 2 ∧ iv = .int .i64 i ∧ vv = .int .i64 x ∧ Hid (x = restK p b v (17 - i))) (fun _ iv => (intOf iv).toNat)
  case atStart => exact ⟨v, 17, hv, by omega, by omega, rfl, rfl, Lib.hid rfl⟩
  case round =>
    obtain ⟨x, i, hx, hi, hib, rfl, rfl, HX⟩ := hrel
    by_cases hlt : b ≤ i + 1
    · have hstep : restK p b v (17 - (i - 1)) = restStep p b x i := by
        have e : 17 - (i - 1) = (17 - i) + 1 := by omega
        rw [e]; unfold restK; rw [← HX.out]; congr 1; omega
      have hsl := restStep_lt p b x i hx HP.out hi hlt
      have hq : (x : Int) / 2 ^ i = ((x / 2 ^ i : Nat) : Int) := by simp
      have hql : x / 2 ^ i ≤ x := Nat.div_le_self _ _
      have ha := and_one (x / 2 ^ i) (by omega)
      rw [← hq] at ha
      have hsh : ((i : Int) - (b : Int) + 1).toNat = i + 1 - b := by omega
      have hpw : p * 2 ^ (i + 1 - b) < 262144 := by
        have h1 : p * 2 ^ (i + 1 - b) < 2 ^ b * 2 ^ (i + 1 - b) := Nat.mul_lt_mul_of_pos_right HP.out (Nat.two_pow_pos _)
        rw [← Nat.pow_add] at h1
        have h2 : 2 ^ (b + (i + 1 - b)) ≤ 2 ^ 18 := Nat.pow_le_pow_right (by decide) (by omega)
        omega
      have hw : wrap64 ((p : Int) * 2 ^ ((i : Int) - (b : Int) + 1).toNat) = ((p * 2 ^ (i + 1 - b) : Nat) : Int) := by
        rw [hsh]
        have e : (p : Int) * 2 ^ (i + 1 - b) = ((p * 2 ^ (i + 1 - b) : Nat) : Int) := by simp
        rw [e]; unfold wrap64; omega
      have hxr := i64_xor x (p * 2 ^ (i + 1 - b)) (Nat.lt_trans hx (by decide)) (Nat.lt_trans hpw (by decide))
      by_cases hbit : x / 2 ^ i % 2 = 1
      · have hs1 : restStep p b x i = x ^^^ p * 2 ^ (i + 1 - b) := by unfold restStep; rw [if_pos hbit]
        rw [hbit] at ha
        rw [hs1] at hstep hsl
        rw [← hw] at hxr
        have HX2 : Hid (x ^^^ p * 2 ^ (i + 1 - b) = restK p b v (17 - (i - 1))) := Lib.hid hstep.symm
        clear hs1 hstep hw hsh hq hql hbit
        generalize x ^^^ p * 2 ^ (i + 1 - b) = z at *
        go_wp2
        go_round
        case rel => exact ⟨z, i - 1, hsl, by omega, by omega, by congr 1; omega, by first | rfl | exact congrArg (Value.int .i64) hxr, HX2⟩
        case measure => simp [intOf]; omega
      · have hs1 : restStep p b x i = x := by unfold restStep; rw [if_neg hbit]
        have hb0 : x / 2 ^ i % 2 = 0 := by omega
        rw [hb0] at ha
        rw [hs1] at hstep
        have HX2 : Hid (x = restK p b v (17 - (i - 1))) := Lib.hid hstep.symm
        clear hs1 hstep hw hsh hq hql hbit hxr hb0
        go_wp2
        go_round
        case rel => exact ⟨x, i - 1, hx, by omega, by omega, by congr 1; omega, rfl, HX2⟩
        case measure => simp [intOf]; omega
    · have hi2 : 17 - i = 19 - b := by omega
      go_wp2
      go_ret
      exact ⟨by rw [HX.out, hi2]; rfl, rfl⟩
end Go.Proofs.Ytcldipbboidjbaa
