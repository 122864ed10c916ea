/-
  GROUND: strings as bytes.
-/
import Derived.Test.YtjpcajecmfhppaaDoorBase
import Derived.Lib.ConvBytes
namespace Go.Proofs.YtjpcajecmfhppaaDoor
open Go.RowKit

/-- The bytes of a string as values. -/
def bytesOf (s : ByteArray) : List Value := s.data.toList.map fun b => Value.int .u8 b.toNat
theorem bytesOf_len (s : ByteArray) : (bytesOf s).length = s.size := by simp [bytesOf]
theorem bytesOf_at (s : ByteArray) (i : Nat) (h : i < s.size) : (bytesOf s)[i]? = some (.int .u8 ((s[i]).toNat : Int)) := by
  unfold bytesOf
  rw [List.getElem?_map, List.getElem?_eq_getElem (by simpa using h)]
  rfl
theorem conv_any {P : Program} (w : World) (src dst e : TypeId) (s : ByteArray) {u : TypeDesc} (hs : P.underlying src = some u) (hd : P.underlying dst = some (.slice e)) (he : P.underlying e = some (.int .u8)) (hm : s.size ≤ maxLen) :
    ∃ v w', (convert src dst (.string s)).run P w = .ok v w' ∧ Rd w' w'.heap.size v (bytesOf s) ∧ Below w.heap.size w w' := by
  refine ⟨_, _, Lib.run_convert_string_bytes w src dst e s hs hd he, ⟨_, _, by rw [bytesOf_len], by rw [bytesOf_len]; exact grownCap_ge _ _ _ _, grownCap_le_maxLen _ _ _ _ hm, fun _ => ⟨_, _, rfl, ?_, fun j u hu => ?_⟩⟩, ?_⟩
  · rw [Lib.bytesWorld_size]; omega
  · have hj : j < s.size := by have := (List.getElem?_eq_some_iff.1 hu).1; rwa [bytesOf_len] at this
    rw [Nat.zero_add, Lib.bytesWorld_cell w e s j hj]
    rw [bytesOf_at s j hj] at hu
    rw [← hu]
    have : s.data.toList.getD j 0 = s[j] := by rw [List.getD, List.getElem?_eq_getElem (by simpa using hj)]; rfl
    rw [this]
  · exact ⟨rfl, rfl, rfl, by rw [Lib.bytesWorld_size]; omega, fun b hb => Lib.bytesWorld_at_old w e s b hb⟩
end Go.Proofs.YtjpcajecmfhppaaDoor
