/-
  GROUND: what a step leaves as it was: all blocks whose elements are not of one type.
-/
import Derived.Test.YtfgajbhgkdkmbaaBase
namespace Go.Proofs.Ytfgajbhgkdkmbaa
open Go.RowKit

/-- All blocks but those of elements of type T stayed. -/
def Frm (T : TypeId) (w w' : World) : Prop := ∀ (b : Nat) (cs : Array Value) (t : TypeId) (fr : Nat × Nat), t ≠ T → w.heap[b]? = some (.cells cs t fr) → w'.heap[b]? = some (.cells cs t fr)
section
variable {T : TypeId} {w w' w'' : World}
theorem Frm.refl (T : TypeId) (w : World) : Frm T w w := fun _ _ _ _ _ h => h
theorem Frm.trans (h : Frm T w w') (k : Frm T w' w'') : Frm T w w'' := fun b cs t fr ht hb => k b cs t fr ht (h b cs t fr ht hb)
theorem Frm.below (hb : Below w.heap.size w w') : Frm T w w' := fun b _ _ _ _ h => (hb.block b (heap_lt h)).trans h
theorem Frm.put {p : Addr} {cs : Array Value} (h : Frm T w w') (hp : Blk w' p.block T cs) (u : Value) : Frm T w (w'.setCell p u) := fun b cs' t fr ht hb => by
  have h1 := h b cs' t fr ht hb
  refine (Below.heap_setCell w' p u b (fun he => ?_)).trans h1
  subst he
  unfold Blk at hp
  rw [h1] at hp
  injection hp with hp
  injection hp with _ h6
  exact ht h6
theorem Frm.drew (h : Frm T w w') : Frm T w w'.drew := h
theorem Frm.blk (h : Frm T w w') {g : Nat} {t : TypeId} {cs : Array Value} (hb : Blk w g t cs) (ht : t ≠ T) : Blk w' g t cs := h g cs t (0, 0) ht hb
theorem Frm.rdT (h : Frm T w w') {e : TypeId} {v : Value} {xs : List Value} (hr : RdT w e v xs) (he : e ≠ T) : RdT w' e v xs := by
  obtain ⟨A, cap, hv, h1, h2, h3⟩ := hr
  refine ⟨A, cap, hv, h1, h2, fun hl => ?_⟩
  obtain ⟨b, off, cs, fr, hA, hh, hc⟩ := h3 hl
  exact ⟨b, off, cs, fr, hA, h b cs e fr he hh, hc⟩
end
end Go.Proofs.Ytfgajbhgkdkmbaa
