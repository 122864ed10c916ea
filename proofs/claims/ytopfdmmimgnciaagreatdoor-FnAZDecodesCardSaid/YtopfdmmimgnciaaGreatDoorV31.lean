/-
  WALKS: getEncodedData.
-/
import Derived.Test.YtopfdmmimgnciaaGreatDoorV03
import Derived.Test.YtopfdmmimgnciaaGreatDoorV01
namespace Go.Proofs.YtopfdmmimgnciaaGreatDoor
open Go.RowKit

theorem info_u8 : (Tryz.prog.info? 5).map (fun i => (i.zero, i.size, i.bytes)) = some (some (.int .u8 0), 1, 1) := by kernel_rfl
/-- Where the reading stands. -/
structure DecS (l : List Bool) (final : List UInt8) (w0 : World) (B g0 K : Nat) (wr : World) (idx lt sh N : Nat) (dv : Value) : Prop where
  dec : ∃ f out rest, Go.Proofs.YtopfdmmimgnciaaGreatDoor.dec f (l.drop idx) lt sh = some rest ∧ out ++ rest = final ∧ wr.ownsRow (g0 + 1) 5 1 dv N (bl out)
  res : wr.ownsRow g0 5 1 (.slice (some ⟨g0, 0, none⟩) 0 K) 0 []
  below : Below B w0 wr
  size : g0 + 1 ≤ wr.heap.size
theorem ctrlPre_no (s : List UInt8) (w : World) (hl : s.length ≤ 100) (h : ¬ [67, 84, 82, 76, 95] <+: s) : Calls Tryz.prog 80 #[.string (ofL s), .string { data := #[67, 84, 82, 76, 95] }] w fun e w' => e = .returned (.bool false) ∧ w' = w := by
  refine (hasPrefix_any (ofL s) _ w (by rw [ofL_size]; unfold maxLen; omega) (by decide)).mono ?_
  rintro e w' ⟨rfl, rfl⟩
  refine ⟨ret_bool ?_, rfl⟩
  unfold isPre
  rw [ofL_data, Bool.eq_false_iff]
  intro h2
  exact h (List.isPrefixOf_iff_prefix.1 h2)
theorem ctrlPre_yes (a b : UInt8) (w : World) : Calls Tryz.prog 80 #[.string (ofL (ctrlS a b)), .string { data := #[67, 84, 82, 76, 95] }] w fun e w' => e = .returned (.bool true) ∧ w' = w := by
  refine (hasPrefix_any (ofL (ctrlS a b)) _ w (by rw [ofL_size]; exact (show (7 : Nat) ≤ maxLen by decide)) (by decide)).mono ?_
  rintro e w' ⟨rfl, rfl⟩
  refine ⟨ret_bool ?_, rfl⟩
  unfold isPre
  rw [ofL_data, List.isPrefixOf_iff_prefix]
  exact ⟨[a, b], rfl⟩
theorem DecS.up {l : List Bool} {final : List UInt8} {w0 : World} {B g0 K : Nat} {wr w' : World} {idx lt sh N : Nat} {dv : Value} (h : DecS l final w0 B g0 K wr idx lt sh N dv) (hb : Below wr.heap.size wr w') (hB : B ≤ wr.heap.size) : DecS l final w0 B g0 K w' idx lt sh N dv := by
  obtain ⟨⟨f, out, rest, h1, h2, h3⟩, h4, h5, h6⟩ := h
  exact ⟨⟨f, out, rest, h1, h2, own_up h3 hb⟩, own_up h4 hb, h5.trans (hb.mono hB), Nat.le_trans h6 hb.size⟩
/-- Where the reading of bytes stands: j of m have been read. -/
structure DecB (l : List Bool) (final : List UInt8) (w0 : World) (B g0 K : Nat) (wr : World) (idx lt m j N : Nat) (dv : Value) : Prop where
  dec : ∃ f out rest, Go.Proofs.YtopfdmmimgnciaaGreatDoor.dec f (takeB (m - j) (l.drop idx)).2 lt lt = some rest ∧ out ++ ((takeB (m - j) (l.drop idx)).1 ++ rest) = final ∧ wr.ownsRow (g0 + 1) 5 1 dv N (bl out)
  res : wr.ownsRow g0 5 1 (.slice (some ⟨g0, 0, none⟩) 0 K) 0 []
  below : Below B w0 wr
  size : g0 + 1 ≤ wr.heap.size
theorem DecB.full {l : List Bool} {final : List UInt8} {w0 : World} {B g0 K : Nat} {wr : World} {idx lt m j N : Nat} {dv : Value} (h : DecB l final w0 B g0 K wr idx lt m j N dv) (hj : m ≤ j) : DecS l final w0 B g0 K wr idx lt lt N dv := by
  obtain ⟨⟨f, out, rest, h1, h2, h3⟩, h4, h5, h6⟩ := h
  rw [show m - j = 0 by omega] at h1 h2
  exact ⟨⟨f, out, rest, h1, by simpa [takeB] using h2, h3⟩, h4, h5, h6⟩
theorem DecB.short {l : List Bool} {final : List UInt8} {w0 : World} {B g0 K : Nat} {wr : World} {idx lt m j N : Nat} {dv : Value} (h : DecB l final w0 B g0 K wr idx lt m j N dv) (hj : j < m) (hs : l.length - idx < 8) : DecS l final w0 B g0 K wr l.length lt lt N dv := by
  obtain ⟨⟨f, out, rest, h1, h2, h3⟩, h4, h5, h6⟩ := h
  rw [show m - j = (m - j - 1) + 1 by omega, takeB_short _ _ (by rw [List.length_drop]; exact hs)] at h1 h2
  exact ⟨⟨f, out, rest, by rw [List.drop_length]; exact h1, by simpa using h2, h3⟩, h4, h5, h6⟩
theorem DecB.step {l : List Bool} {final : List UInt8} {w0 : World} {B g0 K : Nat} {wr : World} {idx lt m j N : Nat} {dv : Value} (h : DecB l final w0 B g0 K wr idx lt m j N dv) (hj : j < m) (hs : 8 ≤ l.length - idx) :
    ∃ f out rest, Go.Proofs.YtopfdmmimgnciaaGreatDoor.dec f (takeB (m - (j + 1)) (l.drop (idx + 8))).2 lt lt = some rest ∧ (out ++ [UInt8.ofNat (valL ((l.drop idx).take 8))]) ++ ((takeB (m - (j + 1)) (l.drop (idx + 8))).1 ++ rest) = final ∧ wr.ownsRow (g0 + 1) 5 1 dv N (bl out) := by
  obtain ⟨⟨f, out, rest, h1, h2, h3⟩, h4, h5, h6⟩ := h
  rw [show m - j = (m - (j + 1)) + 1 by omega, takeB_succ _ _ (by rw [List.length_drop]; exact hs), List.drop_drop] at h1 h2
  exact ⟨f, out, rest, h1, by simpa using h2, h3⟩
end Go.Proofs.YtopfdmmimgnciaaGreatDoor
