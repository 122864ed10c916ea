/-
  WALKS: the fields of Aztec's words; AztecDetectorResult; Decoder.correctBits of a code's words.
-/
import Derived.Test.YtpjaehljgpopmaaZs4
import Derived.Test.YtpjaehljgpopmaaRd1
import Derived.Test.YtpjaehljgpopmaaAp5
namespace Go.Proofs.Ytpjaehljgpopmaa
open Go.RowKit

theorem gf6_any (w : World) : Calls Try.prog 30 #[] w (MadeField w ⟨67, 6, 1⟩) := by
  have h := newField_any ⟨67, 6, 1⟩ (Gf.ok_of_mem (by simp [Gf.fields])) (by decide)
  have h2 : ∀ w, Calls Try.prog 40 #[.int .i64 67, .int .i64 64, .int .i64 1] w (MadeField w ⟨67, 6, 1⟩) := h
  clear h
  go_enter Try.func30, Try.ntmps30
  go_wp2_with fail
  refine (h2 _).mono ?_
  rintro e w1 ⟨g, rfl, hf, hb⟩
  go_wp2
  go_ret
  exact ⟨g, rfl, hf, hb⟩
theorem gfDM_any (w : World) : Calls Try.prog 41 #[] w (MadeField w ⟨301, 8, 1⟩) := by
  have h := newField_any ⟨301, 8, 1⟩ (Gf.ok_of_mem (by simp [Gf.fields])) (by decide)
  have h2 : ∀ w, Calls Try.prog 40 #[.int .i64 301, .int .i64 256, .int .i64 1] w (MadeField w ⟨301, 8, 1⟩) := h
  clear h
  go_enter Try.func41, Try.ntmps41
  go_wp2_with fail
  refine (h2 _).mono ?_
  rintro e w1 ⟨g, rfl, hf, hb⟩
  go_wp2
  go_ret
  exact ⟨g, rfl, hf, hb⟩
theorem gf8_any (w : World) : Calls Try.prog 31 #[] w (MadeField w ⟨301, 8, 1⟩) := by
  go_enter Try.func31, Try.ntmps31
  go_wp2_with fail
  refine (gfDM_any _).mono ?_
  rintro e w1 ⟨g, rfl, hf, hb⟩
  go_wp2
  go_ret
  exact ⟨g, rfl, hf, hb⟩
theorem gf10_any (w : World) : Calls Try.prog 32 #[] w (MadeField w ⟨1033, 10, 1⟩) := by
  have h := newField_any ⟨1033, 10, 1⟩ (Gf.ok_of_mem (by simp [Gf.fields])) (by decide)
  have h2 : ∀ w, Calls Try.prog 40 #[.int .i64 1033, .int .i64 1024, .int .i64 1] w (MadeField w ⟨1033, 10, 1⟩) := h
  clear h
  go_enter Try.func32, Try.ntmps32
  go_wp2_with fail
  refine (h2 _).mono ?_
  rintro e w1 ⟨g, rfl, hf, hb⟩
  go_wp2
  go_ret
  exact ⟨g, rfl, hf, hb⟩
theorem gf12_any (w : World) : Calls Try.prog 33 #[] w (MadeField w ⟨4201, 12, 1⟩) := by
  have h := newField_any ⟨4201, 12, 1⟩ (Gf.ok_of_mem (by simp [Gf.fields])) (by decide)
  have h2 : ∀ w, Calls Try.prog 40 #[.int .i64 4201, .int .i64 4096, .int .i64 1] w (MadeField w ⟨4201, 12, 1⟩) := h
  clear h
  go_enter Try.func33, Try.ntmps33
  go_wp2_with fail
  refine (h2 _).mono ?_
  rintro e w1 ⟨g, rfl, hf, hb⟩
  go_wp2
  go_ret
  exact ⟨g, rfl, hf, hb⟩
/-- Pointer d is a detector's result: so many words of data, so many layers. -/
def DetAt (w : World) (d D L : Nat) : Prop := ∃ u c, Blk w d 73 #[u, c, .int .i64 D, .int .i64 L]
theorem DetAt.up {w w' : World} {d D L : Nat} (h : DetAt w d D L) (hb : Below w.heap.size w w') : DetAt w' d D L := by
  obtain ⟨u, c, h⟩ := h; exact ⟨u, c, h.up hb⟩
theorem detNew_any (c : Bool) (D L : Nat) (w : World) : Calls Try.prog 19 #[.pointer none, .slice none 0 0, .bool c, .int .i64 D, .int .i64 L] w fun e w' => ∃ d, e = .returned (.pointer (some ⟨d, 0, none⟩)) ∧ DetAt w' d D L ∧ Below w.heap.size w w' := by
  go_enter Try.func19, Try.ntmps19
  go_wp2
  go_ret
  exact ⟨_, rfl, ⟨_, _, Blk.fresh' (by simp)⟩, bal (bal (brf w) _) _⟩
theorem nbLayers_any (d D L : Nat) (w : World) (h : DetAt w d D L) : Calls Try.prog 29 #[.pointer (some ⟨d, 0, none⟩)] w fun e w' => e = .returned (.int .i64 L) ∧ w' = w := by
  obtain ⟨u, c, h⟩ := h
  have c3 : w.cell? ⟨d, 3, none⟩ = some (.int .i64 L) := by rw [h.cell]; rfl
  go_enter Try.func29, Try.ntmps29
  go_wp2
  go_ret
  exact ⟨rfl, rfl⟩
theorem nbData_any (d D L : Nat) (w : World) (h : DetAt w d D L) : Calls Try.prog 34 #[.pointer (some ⟨d, 0, none⟩)] w fun e w' => e = .returned (.int .i64 D) ∧ w' = w := by
  obtain ⟨u, c, h⟩ := h
  have c2 : w.cell? ⟨d, 2, none⟩ = some (.int .i64 D) := by rw [h.cell]; rfl
  go_enter Try.func34, Try.ntmps34
  go_wp2
  go_ret
  exact ⟨rfl, rfl⟩
end Go.Proofs.Ytpjaehljgpopmaa
