/-
  WALK: spec.RSElement.
-/
import Derived.Test.YtjhfebhefclenaaBase
namespace Go.Proofs.Ytjhfebhefclenaa
open Go.RowKit

theorem tmod_fix (n s : Int) (hs : 0 < s) : (n.tmod s < 0 → n.tmod s + s = n % s) ∧ (¬ n.tmod s < 0 → n.tmod s = n % s) ∧ 0 ≤ n % s ∧ n % s < s := by
  have h1 := Int.emod_nonneg n (b := s) (by omega)
  have h2 := Int.emod_lt_of_pos n hs
  refine ⟨fun h => ?_, fun h => ?_, h1, h2⟩ <;> rw [Int.tmod_eq_emod] at h ⊢ <;> have h3 : (s.natAbs : Int) = s := by omega
  · split at h <;> rename_i h0
    · simp at h; omega
    · rw [if_neg h0, h3]; omega
  · split at h <;> rename_i h0
    · rw [if_pos h0]; omega
    · rw [h3] at h; omega
/-- spec.RSElement. -/
theorem element_any (p s b n : Int) (w : World) (hs : 0 < s) (hs' : s ≤ 4096) :
    Calls Try.prog 11 #[.agg #[.int .i64 p, .int .i64 s, .int .i64 b], .int .i64 n] w fun e w' => e = .returned (.int .i64 (n % s)) ∧ Below w.heap.size w w' := by
  obtain ⟨f1, f2, f3, f4⟩ := tmod_fix n s hs
  by_cases h : n.tmod s < 0
  · have e1 := f1 h
    clear f1 f2
    go_enter Try.func11, Try.ntmps11
    go_wp2
    go_ret
    exact ⟨by simp, by go_grown⟩
  · have e1 := f2 h
    clear f1 f2
    go_enter Try.func11, Try.ntmps11
    go_wp2
    go_ret
    exact ⟨rfl, by go_grown⟩
end Go.Proofs.Ytjhfebhefclenaa
