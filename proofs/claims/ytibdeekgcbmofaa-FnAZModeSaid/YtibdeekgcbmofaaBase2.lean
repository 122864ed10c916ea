/-
  GROUND, MORE: pointers that are compared with themselves.
-/
import Derived.Test.YtibdeekgcbmofaaBase
import Derived.LaidEqlPtr
namespace Go.Proofs.Ytibdeekgcbmofaa
open Go.RowKit
theorem run_neq_self {P : Program} {tp te : TypeId} (a : Addr) (hp : P.underlying tp = some (.pointer te)) (hte : (P.info? te).isSome = true) (w : World) :
    (binOp .neq tp (.pointer (some a)) (.pointer (some a))).run P w = .ok (.bool false) w := by
  obtain ⟨j, hj⟩ := Option.isSome_iff_exists.1 hte
  have h : ∀ d : Nat, (Op.equalIn (d + 1) tp (.pointer (some a)) (.pointer (some a))).run P w = .ok true w := fun d => by
    simp [Op.equalIn, run_underlying hp, sizeOf, typeInfo, hj, run_sameAddr_same]
  simp only [binOp]
  simp [Op.equal, Op.maxDepth, h 9999]
end Go.Proofs.Ytibdeekgcbmofaa
