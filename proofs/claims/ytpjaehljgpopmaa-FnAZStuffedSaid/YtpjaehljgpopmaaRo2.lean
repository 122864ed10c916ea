/-
  WALKS: spec.BIRows.
-/
import Derived.Test.YtpjaehljgpopmaaRw
namespace Go.Proofs.Ytpjaehljgpopmaa
open Go.RowKit

/-- Row y of rows W wide, of bits that go on and on. -/
def biRow (W : Nat) (l : List Bool) (y : Nat) : List Bool := (List.range W).map fun x => if l.length = 0 then false else l.getD ((y * W + x) % l.length) false
def biRows (W H : Nat) (l : List Bool) : List (List Bool) := (List.range H).map (biRow W l)
theorem biRow_len (W : Nat) (l : List Bool) (y : Nat) : (biRow W l y).length = W := by simp [biRow]
theorem biRows_len (W H : Nat) (l : List Bool) : (biRows W H l).length = H := by simp [biRows]
theorem biRow_at (W : Nat) (l : List Bool) (y x : Nat) (hx : x < W) : (biRow W l y).getD x false = if l.length = 0 then false else l.getD ((y * W + x) % l.length) false := by
  simp [biRow, List.getD, hx]
theorem biRows_at (W H : Nat) (l : List Bool) (y : Nat) (hy : y < H) : (biRows W H l).getD y [] = biRow W l y := by
  simp [biRows, List.getD, hy]
end Go.Proofs.Ytpjaehljgpopmaa
