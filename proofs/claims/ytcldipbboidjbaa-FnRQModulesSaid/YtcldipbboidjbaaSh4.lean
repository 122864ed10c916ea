/-
  WALKS: the standard's numbers (spec) of a version on a level; two lists of numbers compared.
-/
import Derived.Test.YtcldipbboidjbaaSh3
namespace Go.Proofs.Ytcldipbboidjbaa
open Go.RowKit

theorem arrZ_E (v l : Nat) (h1 : 1 ≤ v) (h2 : v ≤ 40) : (arrZ (zsE l))[v - 1]? = some (.int .i64 (ecOf v l : Nat)) := by
  have : v - 1 < 40 := by omega
  simp only [arrZ, zsE, List.getElem?_toArray, List.getElem?_map, List.getElem?_range this, Option.map_some]
  rw [Nat.sub_add_cancel h1]
theorem arrZ_B (v l : Nat) (h1 : 1 ≤ v) (h2 : v ≤ 40) : (arrZ (zsB l))[v - 1]? = some (.int .i64 (numOf v l : Nat)) := by
  have : v - 1 < 40 := by omega
  simp only [arrZ, zsB, List.getElem?_toArray, List.getElem?_map, List.getElem?_range this, Option.map_some]
  rw [Nat.sub_add_cancel h1]
theorem specDim_any (v : Nat) (w : World) (h : v ≤ 40) : Calls Try.prog 36 #[.int .i64 (v : Nat)] w fun e w' => e = .returned (.int .i64 ((17 + 4 * v : Nat) : Int)) ∧ w' = w := by
  go_enter Try.func36, Try.ntmps36
  go_wp2
  go_ret
  exact ⟨ret_int (by omega), rfl⟩
end Go.Proofs.Ytcldipbboidjbaa
