/-
  GROUND: what a slice reads as, in a block below a bound.
-/
import Derived.Test.YtjpcajecmfhppaaDoorBase
namespace Go.Proofs.YtjpcajecmfhppaaDoor
open Go.RowKit

/-- As RdT, and the block is below B. -/
def RdB (w : World) (e : TypeId) (B : Nat) (v : Value) (xs : List Value) : Prop :=
  ∃ A cap, v = .slice A xs.length cap ∧ xs.length ≤ cap ∧ cap ≤ maxLen ∧
    (0 < xs.length → ∃ b off cs fr, A = some ⟨b, off, none⟩ ∧ b < B ∧ w.heap[b]? = some (.cells cs e fr) ∧ ∀ j u, xs[j]? = some u → cs[off + j]? = some u)
section
variable {w w' : World} {e : TypeId} {v : Value} {xs : List Value} {B : Nat}
theorem RdT.rdB (h : RdT w e v xs) : RdB w e w.heap.size v xs := by
  obtain ⟨A, cap, hv, h1, h2, h3⟩ := h
  exact ⟨A, cap, hv, h1, h2, fun hl => by obtain ⟨b, off, cs, fr, hA, hh, hc⟩ := h3 hl; exact ⟨b, off, cs, fr, hA, heap_lt hh, hh, hc⟩⟩
theorem RdB.rdT (h : RdB w e B v xs) : RdT w e v xs := by
  obtain ⟨A, cap, hv, h1, h2, h3⟩ := h
  exact ⟨A, cap, hv, h1, h2, fun hl => by obtain ⟨b, off, cs, fr, hA, _, hh, hc⟩ := h3 hl; exact ⟨b, off, cs, fr, hA, hh, hc⟩⟩
theorem RdB.below (h : RdB w e B v xs) (hb : Below B w w') : RdB w' e B v xs := by
  obtain ⟨A, cap, hv, h1, h2, h3⟩ := h
  exact ⟨A, cap, hv, h1, h2, fun hl => by obtain ⟨b, off, cs, fr, hA, hlt, hh, hc⟩ := h3 hl; exact ⟨b, off, cs, fr, hA, hlt, (hb.block b hlt).trans hh, hc⟩⟩
theorem RdB.far (h : RdB w e B v xs) {p : Addr} {t : TypeId} {cs : Array Value} (hp : Blk w p.block t cs) (ht : t ≠ e) (u : Value) : RdB (w.setCell p u) e B v xs := by
  obtain ⟨A, cap, hv, h1, h2, h3⟩ := h
  refine ⟨A, cap, hv, h1, h2, fun hl => ?_⟩
  obtain ⟨b, off, cs', fr, hA, hlt, hh, hc⟩ := h3 hl
  refine ⟨b, off, cs', fr, hA, hlt, (Below.heap_setCell w p u b (fun he => ?_)).trans hh, hc⟩
  subst he
  unfold Blk at hp
  rw [hh] at hp
  injection hp with hp
  injection hp with _ h6
  exact ht h6.symm
end
end Go.Proofs.YtjpcajecmfhppaaDoor
