/-
  GROUND: rows of bools ([][]bool): what they read as.
-/
import Derived.Test.YtjkfkkenaiodoaaArgs
import Derived.Test.YtjkfkkenaiodoaaCan
import Derived.Deep.LoopGhost
import Derived.Test.YtjkfkkenaiodoaaRb
namespace Go.Proofs.Ytjkfkkenaiodoaa
open Go.RowKit

/-- The value v reads as rows of bools. -/
def RowsT (w : World) (v : Value) (rows : List (List Bool)) : Prop :=
  ∃ vs : List Value, RdT w 37 v vs ∧ vs.length = rows.length ∧ ∀ i, i < rows.length → RdT w 4 (vs.getD i undef) (bv (rows.getD i []))
theorem RowsT.up {w w' : World} {v : Value} {rows : List (List Bool)} (h : RowsT w v rows) (hb : Below w.heap.size w w') : RowsT w' v rows := by
  obtain ⟨vs, h1, h2, h3⟩ := h
  exact ⟨vs, h1.up hb, h2, fun i hi => (h3 i hi).up hb⟩
/-- Its form, and its row i. -/
theorem RowsT.at_ {w : World} {v : Value} {rows : List (List Bool)} (h : RowsT w v rows) (h0 : 0 < rows.length) :
    ∃ b o cap, v = .slice (some ⟨b, o, none⟩) rows.length cap ∧ rows.length ≤ cap ∧ cap ≤ 9223372036854775807 ∧
      Hid (∀ i, i < rows.length → ∃ u, w.cell? ⟨b, o + i, none⟩ = some u ∧ RdT w 4 u (bv (rows.getD i []))) := by
  obtain ⟨vs, h1, h2, h3⟩ := h
  obtain ⟨A, cap, hv, k1, k2, k3⟩ := h1.rd
  rw [h2] at hv k1 k3
  obtain ⟨b, o, rfl, _, hc⟩ := k3 h0
  unfold maxLen at k2
  refine ⟨b, o, cap, hv, k1, by omega, fun i hi => ⟨vs[i]'(by omega), hc i _ (List.getElem?_eq_getElem (by omega)), ?_⟩⟩
  have := h3 i hi
  rwa [List.getD, List.getElem?_eq_getElem (by omega), Option.getD_some] at this
/-- A row's form, and its bits. -/
theorem row_at {w : World} {v : Value} {l : List Bool} (h : RdT w 4 v (bv l)) (h0 : 0 < l.length) :
    ∃ b o c, v = .slice (some ⟨b, o, none⟩) l.length c ∧ l.length ≤ c ∧ c ≤ 9223372036854775807 ∧ Hid (∀ j, j < l.length → w.cell? ⟨b, o + j, none⟩ = some (.bool (l.getD j false))) := by
  obtain ⟨A, c, hv, k1, k2, k3⟩ := h.rd
  rw [bv_len] at hv k1 k3
  obtain ⟨b, o, rfl, _, hc⟩ := k3 h0
  unfold maxLen at k2
  refine ⟨b, o, c, hv, k1, by omega, fun j hj => ?_⟩
  rw [List.getD, List.getElem?_eq_getElem hj]
  exact hc j _ (bv_at l j hj)

end Go.Proofs.Ytjkfkkenaiodoaa
