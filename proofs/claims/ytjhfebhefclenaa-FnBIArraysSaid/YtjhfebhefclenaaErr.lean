/-
  WALKS: errors.New.
-/
import Derived.Test.YtjhfebhefclenaaBase
namespace Go.Proofs.Ytjhfebhefclenaa
open Go.RowKit

/-- An error that is there. -/
def errV (b : Nat) : Value := .iface 59 (.pointer (some ⟨b, 0, none⟩))
theorem errNew_any (s : ByteArray) (w : World) : Calls Try.prog 25 #[.string s] w fun e w' => ∃ b, e = .returned (.iface 59 (.pointer (some ⟨b, 0, none⟩))) ∧ Below w.heap.size w w' := by
  go_enter Try.func25, Try.ntmps25
  go_wp2
  go_ret
  exact ⟨_, rfl, bal (brf w) _⟩
end Go.Proofs.Ytjhfebhefclenaa
