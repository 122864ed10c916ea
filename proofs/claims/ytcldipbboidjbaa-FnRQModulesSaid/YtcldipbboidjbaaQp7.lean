/-
  WALK: spec.QRMaskBit.
-/
import Derived.Test.YtcldipbboidjbaaQp6
namespace Go.Proofs.Ytcldipbboidjbaa
open Go.RowKit

/-- Mask m turns the module of column x, row y. -/
def maskB (m x y : Nat) : Bool :=
  if m = 0 then (x + y) % 2 == 0 else if m = 1 then y % 2 == 0 else if m = 2 then x % 3 == 0 else if m = 3 then (x + y) % 3 == 0 else
  if m = 4 then (y / 2 + x / 3) % 2 == 0 else if m = 5 then x * y % 2 + x * y % 3 == 0 else if m = 6 then (x * y % 2 + x * y % 3) % 2 == 0 else ((x + y) % 2 + x * y % 3) % 2 == 0
set_option maxHeartbeats 1600000 in
theorem maskBit_any (m x y : Nat) (w : World) (hm : m < 8) (hx : x ≤ 176) (hy : y ≤ 176) :
    Calls Try.prog 22 #[.int .i64 m, .int .i64 x, .int .i64 y] w fun e w' => e = .returned (.bool (maskB m x y)) ∧ w' = w := by
  obtain ⟨p, hp⟩ : ∃ p, p = x * y := ⟨_, rfl⟩
  have hple : x * y ≤ 176 * 176 := Nat.mul_le_mul hx hy
  have hpi : (x : Int) * (y : Int) = (p : Int) := by rw [hp]; simp
  rw [← hp] at hple
  have HQ := Lib.hid hp.symm
  clear hp
  have hw : IntKind.i64.wrap (p : Int) = (p : Int) := by rw [IntKind.wrap_i64]; omega
  have hc : m = 0 ∨ m = 1 ∨ m = 2 ∨ m = 3 ∨ m = 4 ∨ m = 5 ∨ m = 6 ∨ m = 7 := by omega
  rcases hc with rfl | rfl | rfl | rfl | rfl | rfl | rfl | rfl
  · go_enter Try.func22, Try.ntmps22
    go_wp2_with fail
    go_ret
    exact ⟨ret_bool (by rw [Bool.eq_iff_iff]; simp only [maskB, HQ.out]; simp; omega), rfl⟩
  · go_enter Try.func22, Try.ntmps22
    go_wp2_with fail
    go_ret
    exact ⟨ret_bool (by rw [Bool.eq_iff_iff]; simp only [maskB, HQ.out]; simp; omega), rfl⟩
  · go_enter Try.func22, Try.ntmps22
    go_wp2_with fail
    go_ret
    exact ⟨ret_bool (by rw [Bool.eq_iff_iff]; simp only [maskB, HQ.out]; simp; omega), rfl⟩
  · go_enter Try.func22, Try.ntmps22
    go_wp2_with fail
    go_ret
    exact ⟨ret_bool (by rw [Bool.eq_iff_iff]; simp only [maskB, HQ.out]; simp; omega), rfl⟩
  · go_enter Try.func22, Try.ntmps22
    go_wp2_with fail
    go_ret
    exact ⟨ret_bool (by rw [Bool.eq_iff_iff]; simp only [maskB, HQ.out]; simp; omega), rfl⟩
  · go_enter Try.func22, Try.ntmps22
    go_wp2_with fail
    go_ret
    exact ⟨ret_bool (by rw [Bool.eq_iff_iff]; simp only [maskB, HQ.out]; simp; omega), rfl⟩
  · go_enter Try.func22, Try.ntmps22
    go_wp2_with fail
    go_ret
    exact ⟨ret_bool (by rw [Bool.eq_iff_iff]; simp only [maskB, HQ.out]; simp; omega), rfl⟩
  · go_enter Try.func22, Try.ntmps22
    go_wp2_with fail
    go_ret
    exact ⟨ret_bool (by rw [Bool.eq_iff_iff]; simp only [maskB, HQ.out]; simp; omega), rfl⟩
end Go.Proofs.Ytcldipbboidjbaa
