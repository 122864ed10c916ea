/-
  GROUND: rows of bools ([][]bool): what they read as.
-/
import Derived.Test.YtpjaehljgpopmaaArgs
import Derived.Test.YtpjaehljgpopmaaCan
import Derived.Deep.LoopGhost
namespace Go.Proofs.Ytpjaehljgpopmaa
open Go.RowKit

/-- The value v reads as rows of bools. -/
def RowsT (w : World) (v : Value) (rows : List (List Bool)) : Prop :=
  ∃ vs : List Value, RdT w 30 v vs ∧ vs.length = rows.length ∧ ∀ i, i < rows.length → RdT w 4 (vs.getD i undef) (bv (rows.getD i []))
theorem RowsT.up {w w' : World} {v : Value} {rows : List (List Bool)} (h : RowsT w v rows) (hb : Below w.heap.size w w') : RowsT w' v rows := by
  obtain ⟨vs, h1, h2, h3⟩ := h
  exact ⟨vs, h1.up hb, h2, fun i hi => (h3 i hi).up hb⟩
/-- Its form, and its row i. -/
theorem RowsT.at_ {w : World} {v : Value} {rows : List (List Bool)} (h : RowsT w v rows) (h0 : 0 < rows.length) :
    ∃ b o cap, v = .slice (some ⟨b, o, none⟩) rows.length cap ∧ rows.length ≤ cap ∧ cap ≤ 9223372036854775807 ∧
      Hid (∀ i, i < rows.length → ∃ u, w.cell? ⟨b, o + i, none⟩ = some u ∧ RdT w 4 u (bv (rows.getD i []))) := by
  obtain ⟨vs, h1, h2, h3⟩ := h
  obtain ⟨A, cap, hv, k1, k2, k3⟩ := h1.rd
  rw [h2] at hv k1 k3
  obtain ⟨b, o, rfl, _, hc⟩ := k3 h0
  unfold maxLen at k2
  refine ⟨b, o, cap, hv, k1, by omega, fun i hi => ⟨vs[i]'(by omega), hc i _ (List.getElem?_eq_getElem (by omega)), ?_⟩⟩
  have := h3 i hi
  rwa [List.getD, List.getElem?_eq_getElem (by omega), Option.getD_some] at this
/-- A row's form, and its bits. -/
theorem row_at {w : World} {v : Value} {l : List Bool} (h : RdT w 4 v (bv l)) (h0 : 0 < l.length) :
    ∃ b o c, v = .slice (some ⟨b, o, none⟩) l.length c ∧ l.length ≤ c ∧ c ≤ 9223372036854775807 ∧ Hid (∀ j, j < l.length → w.cell? ⟨b, o + j, none⟩ = some (.bool (l.getD j false))) := by
  obtain ⟨A, c, hv, k1, k2, k3⟩ := h.rd
  rw [bv_len] at hv k1 k3
  obtain ⟨b, o, rfl, _, hc⟩ := k3 h0
  unfold maxLen at k2
  refine ⟨b, o, c, hv, k1, by omega, fun j hj => ?_⟩
  rw [List.getD, List.getElem?_eq_getElem hj]
  exact hc j _ (bv_at l j hj)

/-- As RdT, and the block is below B. -/
def RdB (w : World) (e : TypeId) (B : Nat) (v : Value) (xs : List Value) : Prop :=
  ∃ A cap, v = .slice A xs.length cap ∧ xs.length ≤ cap ∧ cap ≤ maxLen ∧
    (0 < xs.length → ∃ b off cs fr, A = some ⟨b, off, none⟩ ∧ b < B ∧ w.heap[b]? = some (.cells cs e fr) ∧ ∀ j u, xs[j]? = some u → cs[off + j]? = some u)
section
variable {w w' : World} {e : TypeId} {v : Value} {xs : List Value} {B : Nat}
theorem RdT.rdB (h : RdT w e v xs) : RdB w e w.heap.size v xs := by
  obtain ⟨A, cap, hv, h1, h2, h3⟩ := h
  exact ⟨A, cap, hv, h1, h2, fun hl => by obtain ⟨b, off, cs, fr, hA, hh, hc⟩ := h3 hl; exact ⟨b, off, cs, fr, hA, heap_lt hh, hh, hc⟩⟩
theorem RdB.rdT (h : RdB w e B v xs) : RdT w e v xs := by
  obtain ⟨A, cap, hv, h1, h2, h3⟩ := h
  exact ⟨A, cap, hv, h1, h2, fun hl => by obtain ⟨b, off, cs, fr, hA, _, hh, hc⟩ := h3 hl; exact ⟨b, off, cs, fr, hA, hh, hc⟩⟩
theorem RdB.below (h : RdB w e B v xs) (hb : Below B w w') : RdB w' e B v xs := by
  obtain ⟨A, cap, hv, h1, h2, h3⟩ := h
  exact ⟨A, cap, hv, h1, h2, fun hl => by obtain ⟨b, off, cs, fr, hA, hlt, hh, hc⟩ := h3 hl; exact ⟨b, off, cs, fr, hA, hlt, (hb.block b hlt).trans hh, hc⟩⟩
theorem RdB.far (h : RdB w e B v xs) {p : Addr} {t : TypeId} {cs : Array Value} (hp : Blk w p.block t cs) (ht : t ≠ e) (u : Value) : RdB (w.setCell p u) e B v xs := by
  obtain ⟨A, cap, hv, h1, h2, h3⟩ := h
  refine ⟨A, cap, hv, h1, h2, fun hl => ?_⟩
  obtain ⟨b, off, cs', fr, hA, hlt, hh, hc⟩ := h3 hl
  refine ⟨b, off, cs', fr, hA, hlt, (Below.heap_setCell w p u b (fun he => ?_)).trans hh, hc⟩
  subst he
  unfold Blk at hp
  rw [hh] at hp
  injection hp with hp
  injection hp with _ h6
  exact ht h6.symm
end
end Go.Proofs.Ytpjaehljgpopmaa
