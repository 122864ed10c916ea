/-
  GROUND: what an argument of bools reads as.
-/
import Derived.Test.YtjkfkkenaiodoaaBase
import Derived.Deep.Grids
namespace Go.Proofs.Ytjkfkkenaiodoaa
open Go.ChangeShapes Go.WideShapes Go.ChangeAt Go.RowKit

/-- Bits as values. -/
def bv (l : List Bool) : List Value := l.map Value.bool
theorem bv_len (l : List Bool) : (bv l).length = l.length := by simp [bv]
theorem bv_at (l : List Bool) (i : Nat) (h : i < l.length) : (bv l)[i]? = some (.bool l[i]) := by simp [bv, h]
theorem bv_one (xs : List Bool) : ∀ u ∈ bv xs, u.oneCell' = true := fun u hu => by
  simp only [bv, List.mem_map] at hu
  obtain ⟨x, _, rfl⟩ := hu
  rfl
section
variable {H : Type} {enc : TypeId × Value → H} {P : Program}
theorem addr_add (b off i : Nat) : (⟨b, off, none⟩ : Addr).add i = ⟨b, off + i, none⟩ := by unfold Addr.add; split <;> simp_all
theorem spot_none {W : World} {a : Addr} {v : Value} (h : W.cell? (a.add 0) = some v) : ∃ b off, a = ⟨b, off, none⟩ := by
  obtain ⟨b, off, spot⟩ := a
  cases spot with
  | none => exact ⟨b, off, rfl⟩
  | some x => exfalso; simp [Addr.add, World.cell?] at h; split at h <;> simp_all
theorem rd_bools {t e : TypeId} {W : World} {v : Value} {d : DataW H} {ps : List MemPlace} (ht : P.underlying t = some (.slice e)) (he : P.underlying e = some .bool) (hc : P.cellsOf e = 1)
    (hv : ∃ a len cap, v = .slice a len cap) (h : DataW.Trod enc P W 0 (fun _ => true) true t v d ps) (hlt : ∀ p ∈ ps, p.block < W.heap.size) :
    ∃ xs : List Bool, Rd W W.heap.size v (bv xs) := by
  obtain ⟨a0, len0, cap0, rfl⟩ := hv
  obtain ⟨fuel, hf⟩ := h
  rcases Go.Deep.open_bools ht he hc hf with ⟨hcs, _⟩ | ⟨a, len, cap, B, hcs, _, hl, hm, hx, hcell⟩
  · simp only [Value.cells, List.cons.injEq, and_true] at hcs
    rw [hcs]
    exact ⟨[], Rd.nil_ _ _⟩
  · simp only [Value.cells, List.cons.injEq, and_true] at hcs
    rw [hcs]
    have hlen : (bv ((List.range len).map B)).length = len := by simp [bv]
    refine ⟨(List.range len).map B, some a, cap, by rw [hlen], by omega, hm, fun hpos => ?_⟩
    rw [hlen] at hpos
    obtain ⟨b, off, rfl⟩ := spot_none (hcell 0 (by omega))
    refine ⟨b, off, rfl, ?_, fun j u hu => ?_⟩
    · have hx2 := congrArg Prod.snd hx
      simp only at hx2
      exact hlt (.cell b off) (by rw [hx2]; simp only [MemPlace.row]; refine List.mem_map.2 ⟨0, by simp; omega, by simp⟩)
    · have hj : j < len := by have := (List.getElem?_eq_some_iff.1 hu).1; rw [hlen] at this; exact this
      have h1 := hcell j (by omega)
      rw [addr_add] at h1
      rw [h1]
      rw [← hu]
      simp [bv, hj]
end
end Go.Proofs.Ytjkfkkenaiodoaa
