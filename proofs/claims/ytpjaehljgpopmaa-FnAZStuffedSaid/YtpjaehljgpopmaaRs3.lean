/-
  WALKS: lists of elements.
-/
import Derived.Test.YtpjaehljgpopmaaRs2
namespace Go.Proofs.Ytpjaehljgpopmaa
open Go.RowKit

end Go.Proofs.Ytpjaehljgpopmaa
