/-
  WALKS: what a version is asked for; its blocks on a level.
-/
import Derived.Test.YtcldipbboidjbaaVe
namespace Go.Proofs.Ytcldipbboidjbaa
open Go.RowKit

/-- Where a level's blocks stand in the table. -/
def idxL : Nat → Nat
  | 1 => 0
  | 0 => 1
  | 3 => 2
  | _ => 3
def ecOf (v l : Nat) : Nat := ((verT v).2.getD (idxL l) (0, [])).1
def grpOf (v l : Nat) : List (Nat × Nat) := ((verT v).2.getD (idxL l) (0, [])).2
def cenOf (v : Nat) : List Nat := (verT v).1
def totOf (v : Nat) : Nat := totE (ecOf v 1) (grpOf v 1)
/-- At an address lie a level's blocks. -/
structure EcAt (w : World) (b o g e : Nat) (L : List (Nat × Nat)) : Prop where
  ec : w.cell? ⟨b, o, none⟩ = some (.int .i64 e)
  sl : w.cell? ⟨b, o + 1, none⟩ = some (.slice (some ⟨g, 0, none⟩) L.length L.length)
  row : Blk w g 150 (cellsE L).toArray
theorem EcAt.up {w w' : World} {b o g e : Nat} {L : List (Nat × Nat)} (h : EcAt w b o g e L) (hb : Below w.heap.size w w') : EcAt w' b o g e L := ⟨cell_up h.ec hb, cell_up h.sl hb, h.row.up hb⟩
end Go.Proofs.Ytcldipbboidjbaa
