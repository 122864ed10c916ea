/-
  WALKS: BitMatrix.GetWidth, GetHeight.
-/
import Derived.Test.YtcldipbboidjbaaBm
namespace Go.Proofs.Ytcldipbboidjbaa
open Go.RowKit

theorem matWidth_any (p g W H : Nat) (f : Nat → Nat → Bool) (w : World) (h : MatAt w p g W H f) :
    Calls Try.prog 82 #[.pointer (some ⟨p, 0, none⟩)] w fun e w' => e = .returned (.int .i64 W) ∧ w' = w := by
  obtain ⟨ws, h, _⟩ := h
  have c0 : w.cell? ⟨p, 0, none⟩ = some (.int .i64 W) := by rw [h.head.cell]; rfl
  clear h
  go_enter Try.func82, Try.ntmps82
  go_wp2
  go_ret
  exact ⟨rfl, rfl⟩
theorem matHeight_any (p g W H : Nat) (f : Nat → Nat → Bool) (w : World) (h : MatAt w p g W H f) :
    Calls Try.prog 81 #[.pointer (some ⟨p, 0, none⟩)] w fun e w' => e = .returned (.int .i64 H) ∧ w' = w := by
  obtain ⟨ws, h, _⟩ := h
  have c0 : w.cell? ⟨p, 1, none⟩ = some (.int .i64 H) := by rw [h.head.cell]; rfl
  clear h
  go_enter Try.func81, Try.ntmps81
  go_wp2
  go_ret
  exact ⟨rfl, rfl⟩
end Go.Proofs.Ytcldipbboidjbaa
