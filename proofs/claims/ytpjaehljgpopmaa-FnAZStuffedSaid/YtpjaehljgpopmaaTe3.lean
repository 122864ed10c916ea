/-
  WALKS: strings.HasPrefix.
-/
import Derived.Test.YtpjaehljgpopmaaSx
namespace Go.Proofs.Ytpjaehljgpopmaa
open Go.RowKit

theorem prefix_eq (x p : ByteArray) (_h : p.size ≤ x.size) : ((x.extract 0 p.size).toList == p.toList) = p.data.toList.isPrefixOf x.data.toList := by
  have e : (x.extract 0 p.size).data.toList = x.data.toList.take p.size := by simp [ByteArray.data_extract, Array.toList_extract, List.extract]
  rw [Bool.eq_iff_iff, beq_iff_eq, List.isPrefixOf_iff_prefix, List.prefix_iff_eq_take, ByteArray.toList_eq, ByteArray.toList_eq]
  have hl : p.data.toList.length = p.size := by simp
  rw [hl, ← e]
  exact eq_comm
def isPre (p x : ByteArray) : Bool := p.data.toList.isPrefixOf x.data.toList
theorem isPre_yes {p x : ByteArray} {r : List UInt8} (h : x.data.toList = p.data.toList ++ r) : isPre p x = true := by
  unfold isPre; rw [List.isPrefixOf_iff_prefix, h]; exact List.prefix_append _ _
theorem isPre_no {p x : ByteArray} {a b : UInt8} {q r : List UInt8} (hp : p.data.toList = a :: q) (hx : x.data.toList = b :: r) (hab : a ≠ b) : isPre p x = false := by
  unfold isPre; rw [hp, hx, Bool.eq_false_iff]; intro h
  rw [List.isPrefixOf_iff_prefix] at h
  obtain ⟨t, ht⟩ := h
  injection ht with h1 _
  exact hab h1
end Go.Proofs.Ytpjaehljgpopmaa
