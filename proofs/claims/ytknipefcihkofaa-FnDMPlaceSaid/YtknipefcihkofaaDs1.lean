/-
  GROUND AND WALKS: the placer of the reference: put.
-/
import Derived.Test.YtknipefcihkofaaDp3
namespace Go.Proofs.Ytknipefcihkofaa
open Go.RowKit

def rowI (M : Mod) (r cols : Nat) : List Value := (List.range cols).map fun c => Value.int .i64 (M (r * cols + c))
def rowS (gr : Nat → Nat) (rows cols : Nat) : List Value := (List.range rows).map fun r => Value.slice (some ⟨gr r, 0, none⟩) cols cols
theorem rowI_at (M : Mod) (r cols c : Nat) (h : c < cols) : (rowI M r cols).toArray[c]? = some (.int .i64 (M (r * cols + c))) := by simp [rowI, h]
theorem rowS_at (gr : Nat → Nat) (rows cols r : Nat) (h : r < rows) : (rowS gr rows cols)[r]? = some (.slice (some ⟨gr r, 0, none⟩) cols cols) := by simp [rowS, h]
theorem rowI_set (M : Mod) (r cols c v : Nat) : (rowI M r cols).toArray.setIfInBounds c (.int .i64 (v : Nat)) = (rowI (modSet M (r * cols + c) v) r cols).toArray := by
  apply Array.ext_getElem?
  intro j
  simp only [rowI, List.setIfInBounds_toArray, List.getElem?_toArray, List.getElem?_set, List.getElem?_map, List.length_map, List.length_range]
  by_cases hij : c = j
  · subst hij
    by_cases hi : c < cols
    · simp [hi, modSet]
    · simp [hi]
  · rw [if_neg hij]
    by_cases hj : j < cols
    · have hjc : ¬ j = c := fun h => hij h.symm
      simp [hj, modSet, hjc]
    · simp [hj]
theorem rowI_other (M : Mod) (r r' cols c v : Nat) (hc : c < cols) (h : r ≠ r') : rowI (modSet M (r * cols + c) v) r' cols = rowI M r' cols := by
  unfold rowI
  apply List.map_congr_left
  intro j hj
  rw [List.mem_range] at hj
  unfold modSet
  rw [if_neg]
  intro e
  rcases Nat.lt_or_ge r r' with h1 | h1
  · have := Nat.mul_le_mul_right cols (show r + 1 ≤ r' by omega)
    rw [Nat.add_mul] at this; omega
  · have := Nat.mul_le_mul_right cols (show r' + 1 ≤ r by omega)
    rw [Nat.add_mul] at this; omega
/-- Pointer q is a placer of the reference; its modules are M. -/
structure SpAt (w : World) (q rows cols word : Nat) (v : Value) (base : Nat) (gr : Nat → Nat) (M : Mod) : Prop where
  head : Blk w q 61 #[.int .i64 rows, .int .i64 cols, .int .i64 word, v]
  outer : RdT w 27 v (rowS gr rows cols)
  inner : ∀ r, r < rows → Blk w (gr r) 3 (rowI M r cols).toArray
  lo : ∀ r, r < rows → base ≤ gr r
  inj : ∀ r, r < rows → ∀ r', r' < rows → gr r = gr r' → r = r'
theorem SpAt.up {w w' : World} {q rows cols word base : Nat} {v : Value} {gr : Nat → Nat} {M : Mod} (h : SpAt w q rows cols word v base gr M) (hb : Below w.heap.size w w') : SpAt w' q rows cols word v base gr M :=
  ⟨h.head.up hb, h.outer.up hb, fun r hr => (h.inner r hr).up hb, h.lo, h.inj⟩
theorem SpAt.set {w : World} {q rows cols word base : Nat} {v : Value} {gr : Nat → Nat} {M : Mod} (h : SpAt w q rows cols word v base gr M) (r c x : Nat) (hr : r < rows) (hc : c < cols) : SpAt (w.setCell ⟨gr r, c, none⟩ (.int .i64 (x : Nat))) q rows cols word v base gr (modSet M (r * cols + c) x) := by
  refine ⟨h.head.far (p := ⟨gr r, c, none⟩) (blk_neq h.head (h.inner r hr) (by decide)) _, h.outer.far (p := ⟨gr r, c, none⟩) (h.inner r hr) (by decide) _, fun r' hr' => ?_, h.lo, h.inj⟩
  by_cases e : r = r'
  · subst e
    rw [← rowI_set]; exact (h.inner r hr).put c _
  · rw [rowI_other M r r' cols c x hc e]
    exact (h.inner r' hr').far (p := ⟨gr r, c, none⟩) (fun hg => e (h.inj r hr r' hr' hg.symm)) _
end Go.Proofs.Ytknipefcihkofaa
