/-
  WALKS: sums and products of elements as the package makes them; IsZero, GetZero, GetCoefficients.
-/
import Derived.Test.YtibdeekgcbmofaaRs8
namespace Go.Proofs.Ytibdeekgcbmofaa
open Go.RowKit

/-- GenericGF_addOrSubtract. -/
theorem add_any (a b : Nat) (ha : a < 65536) (hb : b < 65536) (w : World) :
    Calls Try.prog 40 #[.int .i64 a, .int .i64 b] w fun e w' => e = .returned (.int .i64 ((a ^^^ b : Nat) : Int)) ∧ w' = w := by
  have e1 := i64_xor a b (by omega) (by omega)
  go_enter Try.func40, Try.ntmps40
  go_wp2
  go_ret
  exact ⟨rfl, rfl⟩

/-- (*GenericGF).Multiply. -/
theorem mulGF_any (g : Nat) (F : Gf.Fd) (hF : Gf.Ok F) (h12 : F.m ≤ 12) (a b : Nat) (ha : a < F.s) (hb : b < F.s) (w : World) (hf : FieldAt w g F) :
    Calls Try.prog 44 #[.pointer (some ⟨g, 0, none⟩), .int .i64 a, .int .i64 b] w fun e w' => e = .returned (.int .i64 ((Gf.mul F a b : Nat) : Int)) ∧ ∃ n, w' = w.drewN n := by
  have hs4 := Gf.s_ge4 hF
  have hs12 := s_le F h12
  rcases Nat.eq_zero_or_pos a with rfl | ha0
  · rw [Gf.zero_mul]
    go_enter Try.func44, Try.ntmps44
    go_wp2
    go_ret
    exact ⟨rfl, 0, rfl⟩
  · have e0 : ((a : Int) == 0) = false := by simp; omega
    rcases Nat.eq_zero_or_pos b with rfl | hb0
    · rw [Gf.mul_zero]
      go_enter Try.func44, Try.ntmps44
      go_wp2
      go_ret
      exact ⟨rfl, 0, rfl⟩
    · have e1 : ((b : Int) == 0) = false := by simp; omega
      obtain ⟨ge, gl, qz, qo, ce, cl, h⟩ := hf
      obtain ⟨hla, hea⟩ := Gf.lg_spec hF ha0 ha
      obtain ⟨hlb, heb⟩ := Gf.lg_spec hF hb0 hb
      have c0 : w.cell? ⟨g, 0, none⟩ = some (.slice (some ⟨ge, 0, none⟩) F.s F.s) := by rw [h.blk.cell]; rfl
      have c1 : w.cell? ⟨g, 1, none⟩ = some (.slice (some ⟨gl, 0, none⟩) F.s F.s) := by rw [h.blk.cell]; rfl
      have c4 : w.cell? ⟨g, 4, none⟩ = some (.int .i64 F.s) := by rw [h.blk.cell]; rfl
      have cla : w.cell? ⟨gl, a, none⟩ = some (.int .i64 (Gf.lg F a : Nat)) := by
        have := h.log _ hla
        rw [hea] at this
        rw [h.logs.cell]; exact this
      have clb : w.cell? ⟨gl, b, none⟩ = some (.int .i64 (Gf.lg F b : Nat)) := by
        have := h.log _ hlb
        rw [heb] at this
        rw [h.logs.cell]; exact this
      have hmod : (Gf.lg F a + Gf.lg F b) % (F.s - 1) < F.s - 1 := Nat.mod_lt _ (by omega)
      have ce1 : w.cell? ⟨ge, (Gf.lg F a + Gf.lg F b) % (F.s - 1), none⟩ = some (.int .i64 (Gf.mul F a b : Nat)) := by
        rw [h.exps.cell, h.exp _ (by omega), ← Gf.mul_lg hF ha0 ha hb0 hb]
      have hi : (((Gf.lg F a : Nat) : Int) + ((Gf.lg F b : Nat) : Int)) % ((F.s : Int) - 1) = (((Gf.lg F a + Gf.lg F b) % (F.s - 1) : Nat) : Int) := by
        have : ((F.s - 1 : Nat) : Int) = (F.s : Int) - 1 := by omega
        rw [← this]; simp
      clear h hea heb
      generalize Gf.mul F a b = r at *
      generalize Gf.lg F a = la at *
      generalize Gf.lg F b = lb at *
      have hi2 : (((la : Nat) : Int) + ((lb : Nat) : Int)) % ((F.s : Int) - 1) < (F.s : Int) := by rw [hi]; omega
      have hi3 : 0 ≤ (((la : Nat) : Int) + ((lb : Nat) : Int)) % ((F.s : Int) - 1) := by rw [hi]; omega
      have hi4 : ((((la : Nat) : Int) + ((lb : Nat) : Int)) % ((F.s : Int) - 1)).toNat = (la + lb) % (F.s - 1) := by rw [hi]; exact Int.toNat_natCast _
      generalize (la + lb) % (F.s - 1) = j at *
      clear hi hF
      go_enter Try.func44, Try.ntmps44
      go_wp2
      go_quiet (fail)
      go_wp2
      go_ret
      exact ⟨rfl, _, rfl⟩

/-- IsZero. -/
theorem isZero_any (q g : Nat) (l : List Nat) (w : World) (hp : PolyAt w q g l) (hne : l ≠ []) :
    Calls Try.prog 48 #[.pointer (some ⟨q, 0, none⟩)] w fun e w' => e = .returned (.bool (decide (l.getD 0 0 = 0))) ∧ w' = w := by
  obtain ⟨sl, h1, h2⟩ := hp
  obtain ⟨A, ca, rfl, ha1, ha2, ha3⟩ := h2.rd
  simp only [nv_len] at *
  unfold maxLen at ha2
  have hpos : 0 < l.length := by rcases l with _ | ⟨x, r⟩; exact absurd rfl hne; simp
  obtain ⟨ba, oa, rfl, hba, hca⟩ := ha3 hpos
  have c1 : w.cell? ⟨q, 1, none⟩ = some (.slice (some ⟨ba, oa, none⟩) l.length ca) := by rw [h1.cell]; rfl
  have c2 := hca 0 _ (nv_at l 0 hpos)
  rw [Nat.add_zero] at c2
  rw [getD_lt _ _ _ hpos]
  have hb : (((l[0] : Nat) : Int) == 0) = decide (l[0] = 0) := by rw [Bool.eq_iff_iff, beq_iff_eq, decide_eq_true_eq]; omega
  clear ha3 hca h1 h2 hne
  generalize l[0] = r at *
  have hp' : (0 : Int) < (l.length : Int) := by omega
  have HB := Lib.hid hb; clear hb
  go_enter Try.func48, Try.ntmps48
  go_wp2
  go_ret
  exact ⟨ret_bool HB.out, rfl⟩

/-- GetZero, GetOne, GetCoefficients. -/
theorem getZero_any (g : Nat) (F : Gf.Fd) (w : World) (hf : FieldAt w g F) :
    Calls Try.prog 46 #[.pointer (some ⟨g, 0, none⟩)] w fun e w' => ∃ q, e = .returned (.pointer (some ⟨q, 0, none⟩)) ∧ PolyAt w q g [0] ∧ w' = w := by
  obtain ⟨ge, gl, qz, qo, ce, cl, h⟩ := hf
  have c2 : w.cell? ⟨g, 2, none⟩ = some (.pointer (some ⟨qz, 0, none⟩)) := by rw [h.blk.cell]; rfl
  have HZ := Lib.hid h.zero
  clear h
  go_enter Try.func46, Try.ntmps46
  go_wp2
  go_ret
  exact ⟨qz, rfl, HZ.out, rfl⟩
end Go.Proofs.Ytibdeekgcbmofaa
