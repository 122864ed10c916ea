/-
  WALKS: a field is made, and where its table of logarithms lies.
-/
import Derived.Test.YtopfdmmimgnciaaGreatDoorV21
namespace Go.Proofs.YtopfdmmimgnciaaGreatDoor
open Go.RowKit

/-- Block g is a field with its table of logarithms; both lie from block n on. -/
def LogsAt (w : World) (g : Nat) (F : Gf.Fd) (n : Nat) : Prop :=
  ∃ (e0 q0 q1 : Value) (gl : Nat) (cl : Array Value), Blk w g 185 #[e0, .slice (some ⟨gl, 0, none⟩) F.s F.s, q0, q1, .int .i64 F.s, .int .i64 F.p, .int .i64 F.b] ∧ Blk w gl 3 cl ∧ (∀ i, i < F.s - 1 → cl[Gf.ex F i]? = some (.int .i64 (i : Nat))) ∧ n ≤ g ∧ n ≤ gl
theorem LogsAt.up {w w' : World} {g n : Nat} {F : Gf.Fd} (h : LogsAt w g F n) (hb : Below w.heap.size w w') : LogsAt w' g F n := by
  obtain ⟨e0, q0, q1, gl, cl, h1, h2, h3, h4, h5⟩ := h
  exact ⟨e0, q0, q1, gl, cl, h1.up hb, h2.up hb, h3, h4, h5⟩
theorem LogsAt.far {w : World} {g n : Nat} {F : Gf.Fd} (h : LogsAt w g F n) {p : Addr} (hp : p.block < n) (u : Value) : LogsAt (w.setCell p u) g F n := by
  obtain ⟨e0, q0, q1, gl, cl, h1, h2, h3, h4, h5⟩ := h
  exact ⟨e0, q0, q1, gl, cl, h1.far (by omega) u, h2.far (by omega) u, h3, h4, h5⟩
/-- Block g is a field with its table of logarithms; neither lies in block rb. -/
def LogsOff (w : World) (g : Nat) (F : Gf.Fd) (rb : Nat) : Prop :=
  ∃ (e0 q0 q1 : Value) (gl : Nat) (cl : Array Value), Blk w g 185 #[e0, .slice (some ⟨gl, 0, none⟩) F.s F.s, q0, q1, .int .i64 F.s, .int .i64 F.p, .int .i64 F.b] ∧ Blk w gl 3 cl ∧ (∀ i, i < F.s - 1 → cl[Gf.ex F i]? = some (.int .i64 (i : Nat))) ∧ g ≠ rb ∧ gl ≠ rb
theorem LogsOff.up {w w' : World} {g n : Nat} {F : Gf.Fd} (h : LogsOff w g F n) (hb : Below w.heap.size w w') : LogsOff w' g F n := by
  obtain ⟨e0, q0, q1, gl, cl, h1, h2, h3, h4, h5⟩ := h
  exact ⟨e0, q0, q1, gl, cl, h1.up hb, h2.up hb, h3, h4, h5⟩
theorem LogsOff.far {w : World} {g n : Nat} {F : Gf.Fd} (h : LogsOff w g F n) {p : Addr} (hp : p.block = n) (u : Value) : LogsOff (w.setCell p u) g F n := by
  obtain ⟨e0, q0, q1, gl, cl, h1, h2, h3, h4, h5⟩ := h
  exact ⟨e0, q0, q1, gl, cl, h1.far (by omega) u, h2.far (by omega) u, h3, h4, h5⟩
theorem LogsAt.off {w : World} {g n rb : Nat} {F : Gf.Fd} (h : LogsAt w g F n) (hr : rb < n) : LogsOff w g F rb := by
  obtain ⟨e0, q0, q1, gl, cl, h1, h2, h3, h4, h5⟩ := h
  exact ⟨e0, q0, q1, gl, cl, h1, h2, h3, by omega, by omega⟩
/-- A field that was there ahead of the row. -/
theorem FieldAt.off {w : World} {g rb : Nat} {F : Gf.Fd} (h : FieldAt w g F) (hr : w.heap.size ≤ rb) : LogsOff w g F rb := by
  obtain ⟨ge, gl, qz, qo, ce, cl, h⟩ := h
  have h1 := h.blk.lt
  have h2 := h.logs.lt
  exact ⟨_, _, _, gl, cl, h.blk, h.logs, h.log, by omega, by omega⟩
theorem logL_any (g n : Nat) (F : Gf.Fd) (hF : Gf.Ok F) (h12 : F.m ≤ 12) (a : Nat) (ha0 : 0 < a) (ha : a < F.s) (w : World) (hf : LogsOff w g F n) :
    Calls Tryz.prog 105 #[.pointer (some ⟨g, 0, none⟩), .int .i64 a] w fun e w' => e = .returned (.tuple #[.int .i64 (Gf.lg F a : Nat), .nilIface]) ∧ w' = w := by
  obtain ⟨e0, q0, q1, gl, cl, h1, h2, h3, _, _⟩ := hf
  have hs4 := Gf.s_ge4 hF
  have hs12 := s_le F h12
  obtain ⟨hlg, hex⟩ := Gf.lg_spec hF ha0 ha
  have e0 : ((a : Int) == 0) = false := by simp; omega
  have c1 : w.cell? ⟨g, 1, none⟩ = some (.slice (some ⟨gl, 0, none⟩) F.s F.s) := by rw [h1.cell]; rfl
  have cl1 : w.cell? ⟨gl, a, none⟩ = some (.int .i64 (Gf.lg F a : Nat)) := by
    have h9 := h3 _ hlg
    rw [hex] at h9
    rw [h2.cell]; exact h9
  clear hex h1 h2 h3
  generalize Gf.lg F a = la at *
  go_enter Tryz.func105, Tryz.ntmps105
  go_wp2
  go_ret2
  exact ⟨rfl, rfl⟩
end Go.Proofs.YtopfdmmimgnciaaGreatDoor
