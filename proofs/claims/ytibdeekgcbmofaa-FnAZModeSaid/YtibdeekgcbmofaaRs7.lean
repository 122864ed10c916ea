/-
  WALKS: impl.FieldInverse, and the law of inverses.
-/
import Derived.Test.YtibdeekgcbmofaaRs6
namespace Go.Proofs.Ytibdeekgcbmofaa
open Go.RowKit

end Go.Proofs.Ytibdeekgcbmofaa
