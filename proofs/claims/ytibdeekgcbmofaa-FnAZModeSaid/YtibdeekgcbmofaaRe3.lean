/-
  WALKS: the division of two polynomials.
-/
import Derived.Test.YtibdeekgcbmofaaRe2
import Derived.Deep.LoopGhost
namespace Go.Proofs.Ytibdeekgcbmofaa
open Go.RowKit

/-- What a division hands back. -/
def Divided (w : World) (g : Nat) (r : List Nat) (e : Ending) (w' : World) : Prop :=
  ∃ q1 q2, e = .returned (.tuple #[.pointer (some ⟨q1, 0, none⟩), .pointer (some ⟨q2, 0, none⟩), .nilIface]) ∧ PolyAt w' q2 g r ∧ Below w.heap.size w w'

end Go.Proofs.Ytibdeekgcbmofaa
