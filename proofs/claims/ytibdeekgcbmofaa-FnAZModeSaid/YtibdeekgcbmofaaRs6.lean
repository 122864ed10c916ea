/-
  WALKS: a field is made, an inverse is told; THE LAW of inverses.
-/
import Derived.Test.YtibdeekgcbmofaaRs5
namespace Go.Proofs.Ytibdeekgcbmofaa
open Go.RowKit

theorem Blk.three {w : World} {g : Nat} {t : TypeId} {a b c : Value} (h : Blk w g t #[a, b, c]) : w.cell? ⟨g, 0, none⟩ = some a ∧ w.cell? ⟨g, 1, none⟩ = some b ∧ w.cell? ⟨g, 2, none⟩ = some c := by
  rw [h.cell, h.cell, h.cell]; exact ⟨rfl, rfl, rfl⟩
/-- An error of errors.New. -/
def ErrorIs (v : Value) : Prop := ∃ t a, v = .iface t (.pointer (some a))
theorem new_any (s : ByteArray) (w : World) : Calls Try.prog 42 #[.string s] w fun e w' => ∃ a, e = .returned (.iface 100 (.pointer (some a))) ∧ Below w.heap.size w w' := by
  go_enter Try.func42, Try.ntmps42
  go_wp2
  go_ret
  exact ⟨_, rfl, by go_grown⟩

/-- (*GenericGF).Inverse, of 0. -/
theorem inverse_zero (v : Value) (w : World) : Calls Try.prog 49 #[v, .int .i64 0] w fun e w' =>
    ∃ a, e = .returned (.tuple #[.int .i64 0, .iface 100 (.pointer (some a))]) ∧ Below w.heap.size w w' := by
  go_enter Try.func49, Try.ntmps49
  go_wp2_with (go_at_call 42; refine (new_any _ _).mono ?_; rintro e w1 ⟨a, rfl, hb⟩)
  go_ret2
  exact ⟨a, rfl, hb⟩

/-- (*GenericGF).Inverse. -/
theorem inverse_any (g : Nat) (F : Gf.Fd) (hF : Gf.Ok F) (h12 : F.m ≤ 12) (a : Nat) (ha0 : 0 < a) (ha : a < F.s) (w : World) (hf : FieldAt w g F) :
    Calls Try.prog 49 #[.pointer (some ⟨g, 0, none⟩), .int .i64 a] w fun e w' => e = .returned (.tuple #[.int .i64 (Gf.inv F a : Nat), .nilIface]) ∧ Below w.heap.size w w' := by
  obtain ⟨ge, gl, qz, qo, ce, cl, h⟩ := hf
  have hs4 := Gf.s_ge4 hF
  have hs12 := s_le F h12
  obtain ⟨hlg, hex⟩ := Gf.lg_spec hF ha0 ha
  have e0 : ((a : Int) == 0) = false := by simp; omega
  have c0 : w.cell? ⟨g, 0, none⟩ = some (.slice (some ⟨ge, 0, none⟩) F.s F.s) := by rw [h.blk.cell]; rfl
  have c1 : w.cell? ⟨g, 1, none⟩ = some (.slice (some ⟨gl, 0, none⟩) F.s F.s) := by rw [h.blk.cell]; rfl
  have c4 : w.cell? ⟨g, 4, none⟩ = some (.int .i64 F.s) := by rw [h.blk.cell]; rfl
  have cl1 : w.cell? ⟨gl, a, none⟩ = some (.int .i64 (Gf.lg F a : Nat)) := by rw [h.logs.cell, ← hex]; rw [Gf.lg_ex hF (by rw [← Gf.lg_ex hF (i := Gf.lg F a) hlg]; rw [Gf.lg_ex hF hlg]; exact hlg)]; exact h.log _ hlg
  have ce1 : w.cell? ⟨ge, F.s - Gf.lg F a - 1, none⟩ = some (.int .i64 (Gf.inv F a : Nat)) := by
    rw [h.exps.cell]
    have := h.exp (F.s - Gf.lg F a - 1) (by omega)
    rw [this]; unfold Gf.inv; rw [show F.s - Gf.lg F a - 1 = F.s - 1 - Gf.lg F a from by omega]
  have ei : ((F.s : Int) - (Gf.lg F a : Nat) - 1) = ((F.s - Gf.lg F a - 1 : Nat) : Int) := by omega
  have HX := Lib.hid hex; clear hex
  have HH := Lib.hid h; clear h
  generalize Gf.inv F a = r at *
  generalize Gf.lg F a = la at *
  have hei : ((F.s : Int) - (la : Nat) - 1).toNat = F.s - la - 1 := by omega
  have HE := Lib.hid ei; clear ei
  go_enter Try.func49, Try.ntmps49
  go_wp2
  go_quiet (fail)
  go_wp2
  go_ret2
  exact ⟨rfl, below_drewN (Below.refl _ _) _⟩
end Go.Proofs.Ytibdeekgcbmofaa
