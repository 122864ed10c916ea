/-
  WALKS: what a version is asked for; its blocks on a level.
-/
import Derived.Test.YthnhemnlapgnpaaVe
namespace Go.Proofs.Ythnhemnlapgnpaa
open Go.RowKit

/-- Where a level's blocks stand in the table. -/
def idxL : Nat → Nat
  | 1 => 0
  | 0 => 1
  | 3 => 2
  | _ => 3
def ecOf (v l : Nat) : Nat := ((verT v).2.getD (idxL l) (0, [])).1
def grpOf (v l : Nat) : List (Nat × Nat) := ((verT v).2.getD (idxL l) (0, [])).2
def cenOf (v : Nat) : List Nat := (verT v).1
def totOf (v : Nat) : Nat := totE (ecOf v 1) (grpOf v 1)
/-- At an address lie a level's blocks. -/
structure EcAt (w : World) (b o g e : Nat) (L : List (Nat × Nat)) : Prop where
  ec : w.cell? ⟨b, o, none⟩ = some (.int .i64 e)
  sl : w.cell? ⟨b, o + 1, none⟩ = some (.slice (some ⟨g, 0, none⟩) L.length L.length)
  row : Blk w g 132 (cellsE L).toArray
theorem EcAt.up {w w' : World} {b o g e : Nat} {L : List (Nat × Nat)} (h : EcAt w b o g e L) (hb : Below w.heap.size w w') : EcAt w' b o g e L := ⟨cell_up h.ec hb, cell_up h.sl hb, h.row.up hb⟩
theorem ecLevel_any (p v l : Nat) (w : World) (hv : VerAt w p v) (hl : l < 4) : Calls Try.prog 75 #[.pointer (some ⟨p, 0, none⟩), .int .i64 (l : Nat)] w fun e w' =>
    ∃ b o g, e = .returned (.pointer (some ⟨b, o, none⟩)) ∧ EcAt w b o g (ecOf v l) (grpOf v l) ∧ w' = w := by
  obtain ⟨cs, vc, ge, g0, g1, g2, g3, e0, e1, e2, e3, l0, l1, l2, l3, h⟩ := hv
  have h4 : l = 0 ∨ l = 1 ∨ l = 2 ∨ l = 3 := by omega
  rcases h4 with rfl | rfl | rfl | rfl
  · have c : w.cell? ⟨p, 2, none⟩ = some (.slice (some ⟨ge, 0, none⟩) 4 4) := by rw [h.head.cell]; rfl
    have s1 := h.levels.cell (1 * 2)
    have s2 := h.levels.cell (1 * 2 + 1)
    have H : Hid (EcAt w ge (1 * 2) g1 e1 l1) := Lib.hid ⟨by rw [s1]; rfl, by rw [s2]; rfl, h.b1⟩
    have E1 : ecOf v 0 = e1 := by unfold ecOf; rw [h.tab]; rfl
    have E2 : grpOf v 0 = l1 := by unfold grpOf; rw [h.tab]; rfl
    rw [E1, E2]
    clear h s1 s2 E1 E2
    go_enter Try.func75, Try.ntmps75
    go_wp2
    go_ret
    exact ⟨ge, 1 * 2, g1, rfl, H.out, rfl⟩
  · have c : w.cell? ⟨p, 2, none⟩ = some (.slice (some ⟨ge, 0, none⟩) 4 4) := by rw [h.head.cell]; rfl
    have s1 := h.levels.cell (0 * 2)
    have s2 := h.levels.cell (0 * 2 + 1)
    have H : Hid (EcAt w ge (0 * 2) g0 e0 l0) := Lib.hid ⟨by rw [s1]; rfl, by rw [s2]; rfl, h.b0⟩
    have E1 : ecOf v 1 = e0 := by unfold ecOf; rw [h.tab]; rfl
    have E2 : grpOf v 1 = l0 := by unfold grpOf; rw [h.tab]; rfl
    rw [E1, E2]
    clear h s1 s2 E1 E2
    go_enter Try.func75, Try.ntmps75
    go_wp2
    go_ret
    exact ⟨ge, 0 * 2, g0, rfl, H.out, rfl⟩
  · have c : w.cell? ⟨p, 2, none⟩ = some (.slice (some ⟨ge, 0, none⟩) 4 4) := by rw [h.head.cell]; rfl
    have s1 := h.levels.cell (3 * 2)
    have s2 := h.levels.cell (3 * 2 + 1)
    have H : Hid (EcAt w ge (3 * 2) g3 e3 l3) := Lib.hid ⟨by rw [s1]; rfl, by rw [s2]; rfl, h.b3⟩
    have E1 : ecOf v 2 = e3 := by unfold ecOf; rw [h.tab]; rfl
    have E2 : grpOf v 2 = l3 := by unfold grpOf; rw [h.tab]; rfl
    rw [E1, E2]
    clear h s1 s2 E1 E2
    go_enter Try.func75, Try.ntmps75
    go_wp2
    go_ret
    exact ⟨ge, 3 * 2, g3, rfl, H.out, rfl⟩
  · have c : w.cell? ⟨p, 2, none⟩ = some (.slice (some ⟨ge, 0, none⟩) 4 4) := by rw [h.head.cell]; rfl
    have s1 := h.levels.cell (2 * 2)
    have s2 := h.levels.cell (2 * 2 + 1)
    have H : Hid (EcAt w ge (2 * 2) g2 e2 l2) := Lib.hid ⟨by rw [s1]; rfl, by rw [s2]; rfl, h.b2⟩
    have E1 : ecOf v 3 = e2 := by unfold ecOf; rw [h.tab]; rfl
    have E2 : grpOf v 3 = l2 := by unfold grpOf; rw [h.tab]; rfl
    rw [E1, E2]
    clear h s1 s2 E1 E2
    go_enter Try.func75, Try.ntmps75
    go_wp2
    go_ret
    exact ⟨ge, 2 * 2, g2, rfl, H.out, rfl⟩
theorem verDim_any (p v : Nat) (w : World) (h : VerAt w p v) (hv : v ≤ 40) : Calls Try.prog 79 #[.pointer (some ⟨p, 0, none⟩)] w fun e w' => e = .returned (.int .i64 ((17 + 4 * v : Nat) : Int)) ∧ w' = w := by
  obtain ⟨cs, vc, ge, g0, g1, g2, g3, e0, e1, e2, e3, l0, l1, l2, l3, h⟩ := h
  have c0 : w.cell? ⟨p, 0, none⟩ = some (.int .i64 v) := by rw [h.head.cell]; rfl
  clear h
  go_enter Try.func79, Try.ntmps79
  go_wp2
  go_ret
  exact ⟨ret_int (by omega), rfl⟩
theorem verTot_any (p v : Nat) (w : World) (h : VerAt w p v) : Calls Try.prog 80 #[.pointer (some ⟨p, 0, none⟩)] w fun e w' => e = .returned (.int .i64 (totOf v : Nat)) ∧ w' = w := by
  obtain ⟨cs, vc, ge, g0, g1, g2, g3, e0, e1, e2, e3, l0, l1, l2, l3, h⟩ := h
  have E : totOf v = totE e0 l0 := by unfold totOf ecOf grpOf; rw [h.tab]; rfl
  have c0 : w.cell? ⟨p, 3, none⟩ = some (.int .i64 (totOf v : Nat)) := by rw [h.head.cell, E]; rfl
  clear h E
  generalize totOf v = t at *
  go_enter Try.func80, Try.ntmps80
  go_wp2
  go_ret
  exact ⟨rfl, rfl⟩
theorem verMid_any (p v : Nat) (w : World) (h : VerAt w p v) : Calls Try.prog 81 #[.pointer (some ⟨p, 0, none⟩)] w fun e w' => ∃ vc, e = .returned vc ∧ RdT w 3 vc (nvl (cenOf v)) ∧ w' = w := by
  obtain ⟨cs, vc, ge, g0, g1, g2, g3, e0, e1, e2, e3, l0, l1, l2, l3, h⟩ := h
  have E : cenOf v = cs := by unfold cenOf; rw [h.tab]
  have c0 : w.cell? ⟨p, 1, none⟩ = some vc := by rw [h.head.cell]; rfl
  have H := Lib.hid h.mid
  rw [E]
  clear h E
  go_enter Try.func81, Try.ntmps81
  go_wp2
  go_ret
  exact ⟨vc, rfl, H.out, rfl⟩
end Go.Proofs.Ythnhemnlapgnpaa
