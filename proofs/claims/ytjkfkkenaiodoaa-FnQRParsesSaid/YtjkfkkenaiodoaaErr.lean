/-
  WALKS: errors.New.
-/
import Derived.Test.YtjkfkkenaiodoaaBase
namespace Go.Proofs.Ytjkfkkenaiodoaa
open Go.RowKit

/-- An error that is there. -/
def errV (b : Nat) : Value := .iface 93 (.pointer (some ⟨b, 0, none⟩))
theorem errNew_any (s : ByteArray) (w : World) : Calls Try.prog 21 #[.string s] w fun e w' => ∃ b, e = .returned (.iface 93 (.pointer (some ⟨b, 0, none⟩))) ∧ Below w.heap.size w w' := by
  go_enter Try.func21, Try.ntmps21
  go_wp2
  go_ret
  exact ⟨_, rfl, bal (brf w) _⟩
end Go.Proofs.Ytjkfkkenaiodoaa
