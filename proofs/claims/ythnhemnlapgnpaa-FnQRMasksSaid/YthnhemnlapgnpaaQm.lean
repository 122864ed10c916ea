/-
  WALKS AND THE LAW of masks.
-/
import Derived.Test.YthnhemnlapgnpaaBase
namespace Go.Proofs.Ythnhemnlapgnpaa
open Go.RowKit

theorem new_any (s : ByteArray) (w : World) : Calls Try.prog 101 #[.string s] w fun e w' => ∃ a, e = .returned (.iface 221 (.pointer (some a))) ∧ Below w.heap.size w w' := by
  go_enter Try.func101, Try.ntmps101
  go_wp2
  go_ret
  exact ⟨_, rfl, by go_grown⟩
theorem and_one (a : Nat) (ha : a < 9223372036854775808) : bits .and .i64 (a : Int) 1 = ((a % 2 : Nat) : Int) := by
  have := i64_and a 1 ha (by decide)
  rw [Nat.and_one_is_mod] at this
  exact this
/-- What the standard says of mask k at column x and row y; p is their product. -/
def qm (k x y p : Nat) : Bool :=
  match k with
  | 0 => decide ((x + y) % 2 = 0)
  | 1 => decide (y % 2 = 0)
  | 2 => decide (x % 3 = 0)
  | 3 => decide ((x + y) % 3 = 0)
  | 4 => decide ((y / 2 + x / 3) % 2 = 0)
  | 5 => decide (p % 2 + p % 3 = 0)
  | 6 => decide ((p % 2 + p % 3) % 2 = 0)
  | _ => decide (((x + y) % 2 + p % 3) % 2 = 0)
theorem tuple_bool {a b : Bool} {v : Value} (h : a = b) : Ending.returned (.tuple #[.bool a, v]) = .returned (.tuple #[.bool b, v]) := by rw [h]
theorem spec_any (k x y p : Nat) (hk : k < 8) (hx : x < 65536) (hy : y < 65536) (hp : (x : Int) * (y : Int) = (p : Int)) (hp2 : p < 4294967296) (w : World) :
    Calls Try.prog 13 #[.int .i64 k, .int .i64 x, .int .i64 y] w fun e w' => e = .returned (.bool (qm k x y p)) ∧ w' = w := by
  obtain rfl | rfl | rfl | rfl | rfl | rfl | rfl | rfl : k = 0 ∨ k = 1 ∨ k = 2 ∨ k = 3 ∨ k = 4 ∨ k = 5 ∨ k = 6 ∨ k = 7 := by omega
  all_goals
    clear hk
    go_enter Try.func13, Try.ntmps13
    go_wp2
    go_ret
    exact ⟨ret_bool (by rw [Bool.eq_iff_iff]; simp [qm]; try omega), rfl⟩
theorem pub_any (k x y p : Nat) (hk : k < 8) (hx : x < 65536) (hy : y < 65536) (hp : (y : Int) * (x : Int) = (p : Int)) (hp2 : p < 4294967296) (w : World) :
    Calls Try.prog 54 #[.int .i64 k, .int .i64 x, .int .i64 y] w fun e w' => e = .returned (.tuple #[.bool (qm k x y p), .nilIface]) ∧ w' = w := by
  have a1 := and_one p (by omega)
  have a2 : bits .and .i64 ((y : Int) + (x : Int)) 1 = (((y + x) % 2 : Nat) : Int) := and_one (y + x) (by omega)
  have a3 := and_one y (by omega)
  have a4 : bits .and .i64 ((y : Int) / 2 + (x : Int) / 3) 1 = (((y / 2 + x / 3) % 2 : Nat) : Int) := and_one (y / 2 + x / 3) (by omega)
  have a5 : bits .and .i64 ((p : Int) % 2 + (p : Int) % 3) 1 = (((p % 2 + p % 3) % 2 : Nat) : Int) := and_one (p % 2 + p % 3) (by omega)
  have a6 : bits .and .i64 ((p : Int) % 3 + ((y : Int) + (x : Int)) % 2) 1 = (((p % 3 + (y + x) % 2) % 2 : Nat) : Int) := and_one (p % 3 + (y + x) % 2) (by omega)
  obtain rfl | rfl | rfl | rfl | rfl | rfl | rfl | rfl : k = 0 ∨ k = 1 ∨ k = 2 ∨ k = 3 ∨ k = 4 ∨ k = 5 ∨ k = 6 ∨ k = 7 := by omega
  all_goals
    clear hk
    go_enter Try.func54, Try.ntmps54
    go_wp2
    go_ret2
    exact ⟨tuple_bool (by rw [Bool.eq_iff_iff]; simp [qm]; try omega), rfl⟩
theorem pub_none (k x y : Int) (hk : k < 0 ∨ 7 < k) (w : World) :
    Calls Try.prog 54 #[.int .i64 k, .int .i64 x, .int .i64 y] w fun e w' => ∃ a, e = .returned (.tuple #[.bool false, .iface 221 (.pointer (some a))]) ∧ Below w.heap.size w w' := by
  have e0 : (k == 0) = false := by simp; omega
  have e1 : (k == 1) = false := by simp; omega
  have e2 : (k == 2) = false := by simp; omega
  have e3 : (k == 3) = false := by simp; omega
  have e4 : (k == 4) = false := by simp; omega
  have e5 : (k == 5) = false := by simp; omega
  have e6 : (k == 6) = false := by simp; omega
  have e7 : (k == 7) = false := by simp; omega
  clear hk
  go_enter Try.func54, Try.ntmps54
  go_wp2_with (go_at_call 101; refine (new_any _ _).mono ?_; rintro e w1 ⟨a, rfl, hb⟩)
  go_ret2
  exact ⟨a, rfl, hb⟩
theorem mask_any (k x y p : Nat) (hk : k < 8) (hx : x < 65536) (hy : y < 65536) (hp : (y : Int) * (x : Int) = (p : Int)) (hp2 : p < 4294967296) (w : World) :
    Calls Try.prog 12 #[.int .i64 k, .int .i64 x, .int .i64 y] w fun e w' => e = .returned (.tuple #[.bool (qm k x y p), .bool true]) ∧ Below w.heap.size w w' := by
  go_enter Try.func12, Try.ntmps12
  go_wp2_with fail
  refine (pub_any k x y p hk hx hy hp hp2 w).mono ?_
  rintro e w1 ⟨rfl, rfl⟩
  go_wp2
  go_quiet (fail)
  go_wp2
  go_ret2
  exact ⟨rfl, bdn (brf _) _⟩
theorem mask_none (k x y : Int) (hk : k < 0 ∨ 7 < k) (w : World) :
    Calls Try.prog 12 #[.int .i64 k, .int .i64 x, .int .i64 y] w fun e w' => e = .returned (.tuple #[.bool false, .bool false]) ∧ Below w.heap.size w w' := by
  go_enter Try.func12, Try.ntmps12
  go_wp2_with fail
  refine (pub_none k x y hk w).mono ?_
  rintro e w1 ⟨a, rfl, hb⟩
  go_wp2
  go_quiet (fail)
  go_wp2
  go_ret2
  exact ⟨rfl, bdn hb _⟩
theorem masks_walk (k : Int) (x y : Nat) (hx : x < 65536) (hy : y < 65536) (w : World) :
    Calls Try.prog 3 #[.int .i64 k, .int .u16 x, .int .u16 y] w fun e w' => e = .returned (.bool true) ∧ Below w.heap.size w w' := by
  by_cases h0 : k < 0
  · go_enter Try.func3, Try.ntmps3
    go_wp2_with fail
    refine (mask_none k x y (by omega) w).mono ?_
    rintro e w1 ⟨rfl, hb⟩
    go_wp2
    go_ret
    exact ⟨rfl, hb⟩
  · by_cases h7 : 7 < k
    · go_enter Try.func3, Try.ntmps3
      go_wp2_with fail
      refine (mask_none k x y (by omega) w).mono ?_
      rintro e w1 ⟨rfl, hb⟩
      go_wp2
      go_ret
      exact ⟨rfl, hb⟩
    · obtain ⟨k, rfl⟩ := Int.eq_ofNat_of_zero_le (a := k) (by omega)
      have hp1 : (x : Int) * (y : Int) = ((x * y : Nat) : Int) := by simp
      have hp2 : (y : Int) * (x : Int) = ((x * y : Nat) : Int) := by rw [Int.mul_comm]; simp
      have hp3 : x * y < 4294967296 := Nat.mul_lt_mul'' hx hy
      generalize x * y = p at *
      go_enter Try.func3, Try.ntmps3
      go_wp2_with fail
      refine (mask_any k x y p (by omega) hx hy hp2 hp3 w).mono ?_
      rintro e w1 ⟨rfl, hb⟩
      go_wp2_with fail
      refine (spec_any k x y p (by omega) hx hy hp1 hp3 w1).mono ?_
      rintro e w2 ⟨rfl, rfl⟩
      go_wp2
      go_ret
      exact ⟨rfl, hb⟩
end Go.Proofs.Ythnhemnlapgnpaa
