/-
  WALKS: errors.New.
-/
import Derived.Test.YtjpcajecmfhppaaDoorBase
namespace Go.Proofs.YtjpcajecmfhppaaDoor
open Go.RowKit

/-- An error that is there. -/
def errV (b : Nat) : Value := .iface 103 (.pointer (some ⟨b, 0, none⟩))
theorem errNew_any (s : ByteArray) (w : World) : Calls Tryd.prog 58 #[.string s] w fun e w' => ∃ b, e = .returned (.iface 103 (.pointer (some ⟨b, 0, none⟩))) ∧ Below w.heap.size w w' := by
  go_enter Tryd.func58, Tryd.ntmps58
  go_wp2
  go_ret
  exact ⟨_, rfl, bal (brf w) _⟩
end Go.Proofs.YtjpcajecmfhppaaDoor
