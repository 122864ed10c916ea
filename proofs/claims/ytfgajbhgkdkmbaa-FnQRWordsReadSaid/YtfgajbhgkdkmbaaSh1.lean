/-
  WALKS: what a version is asked for; its blocks on a level.
-/
import Derived.Test.YtfgajbhgkdkmbaaVe
namespace Go.Proofs.Ytfgajbhgkdkmbaa
open Go.RowKit

/-- Where a level's blocks stand in the table. -/
def idxL : Nat → Nat
  | 1 => 0
  | 0 => 1
  | 3 => 2
  | _ => 3
def ecOf (v l : Nat) : Nat := ((verT v).2.getD (idxL l) (0, [])).1
def grpOf (v l : Nat) : List (Nat × Nat) := ((verT v).2.getD (idxL l) (0, [])).2
def cenOf (v : Nat) : List Nat := (verT v).1
def totOf (v : Nat) : Nat := totE (ecOf v 1) (grpOf v 1)
/-- At an address lie a level's blocks. -/
structure EcAt (w : World) (b o g e : Nat) (L : List (Nat × Nat)) : Prop where
  ec : w.cell? ⟨b, o, none⟩ = some (.int .i64 e)
  sl : w.cell? ⟨b, o + 1, none⟩ = some (.slice (some ⟨g, 0, none⟩) L.length L.length)
  row : Blk w g 195 (cellsE L).toArray
theorem EcAt.up {w w' : World} {b o g e : Nat} {L : List (Nat × Nat)} (h : EcAt w b o g e L) (hb : Below w.heap.size w w') : EcAt w' b o g e L := ⟨cell_up h.ec hb, cell_up h.sl hb, h.row.up hb⟩
theorem verDim_any (p v : Nat) (w : World) (h : VerAt w p v) (hv : v ≤ 40) : Calls Try.prog 71 #[.pointer (some ⟨p, 0, none⟩)] w fun e w' => e = .returned (.int .i64 ((17 + 4 * v : Nat) : Int)) ∧ w' = w := by
  obtain ⟨cs, vc, ge, g0, g1, g2, g3, e0, e1, e2, e3, l0, l1, l2, l3, h⟩ := h
  have c0 : w.cell? ⟨p, 0, none⟩ = some (.int .i64 v) := by rw [h.head.cell]; rfl
  clear h
  go_enter Try.func71, Try.ntmps71
  go_wp2
  go_ret
  exact ⟨ret_int (by omega), rfl⟩
theorem verTot_any (p v : Nat) (w : World) (h : VerAt w p v) : Calls Try.prog 104 #[.pointer (some ⟨p, 0, none⟩)] w fun e w' => e = .returned (.int .i64 (totOf v : Nat)) ∧ w' = w := by
  obtain ⟨cs, vc, ge, g0, g1, g2, g3, e0, e1, e2, e3, l0, l1, l2, l3, h⟩ := h
  have E : totOf v = totE e0 l0 := by unfold totOf ecOf grpOf; rw [h.tab]; rfl
  have c0 : w.cell? ⟨p, 3, none⟩ = some (.int .i64 (totOf v : Nat)) := by rw [h.head.cell, E]; rfl
  clear h E
  generalize totOf v = t at *
  go_enter Try.func104, Try.ntmps104
  go_wp2
  go_ret
  exact ⟨rfl, rfl⟩
end Go.Proofs.Ytfgajbhgkdkmbaa
