/-
  WALKS: where patterns stand in a QR symbol: spec.qrFar, spec.qrFormatAt.
-/
import Derived.Test.YtcldipbboidjbaaBase
import Derived.Test.YtcldipbboidjbaaFill
namespace Go.Proofs.Ytcldipbboidjbaa
open Go.RowKit

/-- How far a module is from another one. -/
def farI (r c row col : Int) : Int := max (max (r - row) (row - r)) (max (c - col) (col - c))
theorem far_any (r c row col : Int) (w : World) (h1 : 0 ≤ r ∧ r ≤ 1000) (h2 : 0 ≤ c ∧ c ≤ 1000) (h3 : 0 ≤ row ∧ row ≤ 1000) (h4 : 0 ≤ col ∧ col ≤ 1000) :
    Calls Try.prog 77 #[.int .i64 r, .int .i64 c, .int .i64 row, .int .i64 col] w fun e w' => e = .returned (.int .i64 (farI r c row col)) ∧ w' = w := by
  go_enter Try.func77, Try.ntmps77
  go_wp2
  all_goals
    go_ret
    exact ⟨ret_int (by unfold farI; omega), rfl⟩
/-- Which bit of the format stands at a module. -/
def fmtI (n r c : Int) : Int :=
  if c = 8 ∧ r ≤ 5 then r else if c = 8 ∧ r = 7 then 6 else if c = 8 ∧ r = 8 then 7 else if r = 8 ∧ c = 7 then 8 else
  if r = 8 ∧ c ≤ 5 then 14 - c else if r = 8 ∧ n - 8 ≤ c then n - 1 - c else if c = 8 ∧ n - 7 ≤ r then r - n + 15 else -1
set_option maxHeartbeats 1000000 in
theorem formatAt_any (n r c : Int) (w : World) (h0 : 21 ≤ n ∧ n ≤ 177) (h1 : 0 ≤ r ∧ r < n) (h2 : 0 ≤ c ∧ c < n) :
    Calls Try.prog 76 #[.int .i64 n, .int .i64 r, .int .i64 c] w fun e w' => e = .returned (.int .i64 (fmtI n r c)) ∧ w' = w := by
  by_cases c8 : c = 8
  · subst c8
    by_cases a1 : r ≤ 5
    · go_enter Try.func76, Try.ntmps76
      go_wp2
      go_ret
      exact ⟨ret_int (by unfold fmtI; split <;> (try split) <;> (try split) <;> (try split) <;> (try split) <;> (try split) <;> (try split) <;> omega), rfl⟩
    by_cases a2 : r = 7
    · subst a2
      go_enter Try.func76, Try.ntmps76
      go_wp2
      go_ret
      exact ⟨ret_int (by unfold fmtI; split <;> (try split) <;> (try split) <;> (try split) <;> (try split) <;> (try split) <;> (try split) <;> omega), rfl⟩
    by_cases a3 : r = 8
    · subst a3
      go_enter Try.func76, Try.ntmps76
      go_wp2
      go_ret
      exact ⟨ret_int (by unfold fmtI; split <;> (try split) <;> (try split) <;> (try split) <;> (try split) <;> (try split) <;> (try split) <;> omega), rfl⟩
    by_cases a4 : n - 7 ≤ r
    · go_enter Try.func76, Try.ntmps76
      go_wp2
      go_ret
      exact ⟨ret_int (by unfold fmtI; split <;> (try split) <;> (try split) <;> (try split) <;> (try split) <;> (try split) <;> (try split) <;> omega), rfl⟩
    · go_enter Try.func76, Try.ntmps76
      go_wp2
      go_ret
      exact ⟨ret_int (by unfold fmtI; split <;> (try split) <;> (try split) <;> (try split) <;> (try split) <;> (try split) <;> (try split) <;> omega), rfl⟩
  · by_cases r8 : r = 8
    · subst r8
      by_cases a1 : c = 7
      · subst a1
        go_enter Try.func76, Try.ntmps76
        go_wp2
        go_ret
        exact ⟨ret_int (by unfold fmtI; split <;> (try split) <;> (try split) <;> (try split) <;> (try split) <;> (try split) <;> (try split) <;> omega), rfl⟩
      by_cases a2 : c ≤ 5
      · go_enter Try.func76, Try.ntmps76
        go_wp2
        go_ret
        exact ⟨ret_int (by unfold fmtI; split <;> (try split) <;> (try split) <;> (try split) <;> (try split) <;> (try split) <;> (try split) <;> omega), rfl⟩
      by_cases a3 : n - 8 ≤ c
      · go_enter Try.func76, Try.ntmps76
        go_wp2
        go_ret
        exact ⟨ret_int (by unfold fmtI; split <;> (try split) <;> (try split) <;> (try split) <;> (try split) <;> (try split) <;> (try split) <;> omega), rfl⟩
      · go_enter Try.func76, Try.ntmps76
        go_wp2
        go_ret
        exact ⟨ret_int (by unfold fmtI; split <;> (try split) <;> (try split) <;> (try split) <;> (try split) <;> (try split) <;> (try split) <;> omega), rfl⟩
    · have t1 : (c == 8) = false := by simp [c8]
      have t2 : (r == 8) = false := by simp [r8]
      go_enter Try.func76, Try.ntmps76
      go_wp2
      go_ret
      exact ⟨ret_int (by unfold fmtI; split <;> (try split) <;> (try split) <;> (try split) <;> (try split) <;> (try split) <;> (try split) <;> omega), rfl⟩
end Go.Proofs.Ytcldipbboidjbaa
