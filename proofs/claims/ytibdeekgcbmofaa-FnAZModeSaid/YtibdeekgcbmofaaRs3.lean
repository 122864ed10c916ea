/-
  WALKS: lists of elements.
-/
import Derived.Test.YtibdeekgcbmofaaRs2
namespace Go.Proofs.Ytibdeekgcbmofaa
open Go.RowKit

end Go.Proofs.Ytibdeekgcbmofaa
