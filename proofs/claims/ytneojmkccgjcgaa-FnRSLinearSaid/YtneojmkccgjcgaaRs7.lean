/-
  WALKS: impl.FieldInverse, and the law of inverses.
-/
import Derived.Test.YtneojmkccgjcgaaRs6
namespace Go.Proofs.Ytneojmkccgjcgaa
open Go.RowKit

theorem fieldInverse_zero (F : Gf.Fd) (hF : Gf.Ok F) (h12 : F.m ≤ 12) (w : World) :
    Calls Try.prog 13 #[.agg #[.int .i64 F.p, .int .i64 F.s, .int .i64 F.b], .int .i64 0] w fun e w' => e = .returned (.tuple #[.int .i64 0, .bool false]) ∧ Below w.heap.size w w' := by
  go_enter Try.func13, Try.ntmps13
  go_wp2_with fail
  refine (implField_any F hF h12 _).mono ?_
  rintro e w1 ⟨g, rfl, hf, hb⟩
  go_wp2_with fail
  refine (inverse_zero _ _).mono ?_
  rintro e w2 ⟨a, rfl, hb2⟩
  go_wp2
  go_quiet (fail)
  go_wp2
  go_ret2
  exact ⟨rfl, bdn (bup (bup (bal (brf _) _) hb) hb2) _⟩

theorem fieldInverse_any (F : Gf.Fd) (hF : Gf.Ok F) (h12 : F.m ≤ 12) (a : Nat) (ha0 : 0 < a) (ha : a < F.s) (w : World) :
    Calls Try.prog 13 #[.agg #[.int .i64 F.p, .int .i64 F.s, .int .i64 F.b], .int .i64 a] w fun e w' => e = .returned (.tuple #[.int .i64 (Gf.inv F a : Nat), .bool true]) ∧ Below w.heap.size w w' := by
  go_enter Try.func13, Try.ntmps13
  go_wp2_with fail
  refine (implField_any F hF h12 _).mono ?_
  rintro e w1 ⟨g, rfl, hf, hb⟩
  go_wp2_with fail
  refine (inverse_any g F hF h12 a ha0 ha _ hf).mono ?_
  rintro e w2 ⟨rfl, hb2⟩
  go_wp2
  go_quiet (fail)
  go_wp2
  go_ret2
  exact ⟨rfl, bdn (bup (bup (bal (brf _) _) hb) hb2) _⟩

theorem inverses_walk (n : Nat) (hn : n < 256) (a : Int) (w : World) :
    Calls Try.prog 4 #[.int .u8 n, .int .i64 a] w fun e w' => e = .returned (.bool true) ∧ Below w.heap.size w w' := by
  have hF := fld_ok n
  have h12 := fld_12 n
  have hs4 := Gf.s_ge4 hF
  have hs12 := s_le (fld n) h12
  have hel := el_lt (fld n) a
  have heli := el_int (fld n) a
  have HI := Lib.hid heli; clear heli
  by_cases h0 : el (fld n) a = 0
  · have e0 : a % ((fld n).s : Int) = 0 := by rw [← HI.out, h0]; rfl
    have HE := Lib.hid e0; clear e0
    go_enter Try.func4, Try.ntmps4
    go_wp2_with fail
    refine (field_any n _ hn).mono ?_
    rintro e w1 ⟨rfl, hb1⟩
    unfold fdV
    generalize fld n = F at *
    go_wp2_with fail
    refine (element_any _ _ _ _ _ (by omega) (by omega)).mono ?_
    rintro e w2 ⟨rfl, hb2⟩
    rw [HE.out]
    have X2 := (Blk.fresh w1 26 #[.int .i64 F.p, .int .i64 F.s, .int .i64 F.b]).up hb2
    obtain ⟨x0, x1, x2⟩ := X2.three
    clear X2
    go_wp2_with fail
    refine (fieldInverse_zero F hF h12 _).mono ?_
    rintro e w3 ⟨rfl, hb3⟩
    go_wp2
    go_ret
    exact ⟨rfl, bup (bup (bal hb1 _) hb2) hb3⟩
  · have h0' : 0 < el (fld n) a := by omega
    have hiv := Gf.inv_lt hF (el (fld n) a)
    have hiv0 := Gf.inv_pos hF (el (fld n) a)
    have hmi := Gf.mul_inv hF h0' hel
    go_enter Try.func4, Try.ntmps4
    go_wp2_with fail
    refine (field_any n _ hn).mono ?_
    rintro e w1 ⟨rfl, hb1⟩
    unfold fdV
    generalize fld n = F at *
    go_wp2_with fail
    refine (element_any _ _ _ _ _ (by omega) (by omega)).mono ?_
    rintro e w2 ⟨rfl, hb2⟩
    rw [← HI.out]
    clear HI
    generalize el F a = x at *
    have X2 := (Blk.fresh w1 26 #[.int .i64 F.p, .int .i64 F.s, .int .i64 F.b]).up hb2
    obtain ⟨x0, x1, x2⟩ := X2.three
    have HX2 := Lib.hid X2; clear X2
    have HM := Lib.hid hmi; clear hmi
    go_wp2_with fail
    refine (fieldInverse_any F hF h12 x h0' hel _).mono ?_
    rintro e w3 ⟨rfl, hb3⟩
    obtain ⟨y0, y1, y2⟩ := (HX2.out.up hb3).three
    have e1 : ((x : Int) != 0) = true := by simp; omega
    have e2 : decide ((0 : Int) < (Gf.inv F x : Nat)) = true := by simp; omega
    have e3 : decide (((Gf.inv F x : Nat) : Int) < (F.s : Int)) = true := by simp; omega
    clear x0 x1 x2
    go_wp2_with fail
    refine (times_any F hF h12 x _ _ hel hiv).mono ?_
    rintro e w4 ⟨rfl, hb4⟩
    rw [HM.out]
    go_wp2
    go_ret
    exact ⟨rfl, bup (bup (bup (bal hb1 _) hb2) hb3) hb4⟩
end Go.Proofs.Ytneojmkccgjcgaa
