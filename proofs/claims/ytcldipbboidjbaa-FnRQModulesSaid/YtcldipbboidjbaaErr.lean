/-
  WALKS: errors.New.
-/
import Derived.Test.YtcldipbboidjbaaBase
namespace Go.Proofs.Ytcldipbboidjbaa
open Go.RowKit

/-- An error that is there. -/
def errV (b : Nat) : Value := .iface 145 (.pointer (some ⟨b, 0, none⟩))
theorem errNew_any (s : ByteArray) (w : World) : Calls Try.prog 48 #[.string s] w fun e w' => ∃ b, e = .returned (.iface 145 (.pointer (some ⟨b, 0, none⟩))) ∧ Below w.heap.size w w' := by
  go_enter Try.func48, Try.ntmps48
  go_wp2
  go_ret
  exact ⟨_, rfl, bal (brf w) _⟩
end Go.Proofs.Ytcldipbboidjbaa
