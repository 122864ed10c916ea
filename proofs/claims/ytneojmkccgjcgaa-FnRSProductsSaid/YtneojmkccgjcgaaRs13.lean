/-
  WALKS: impl.two, impl.list, impl.PolyTimes, and the law of products.
-/
import Derived.Test.YtneojmkccgjcgaaRs12
namespace Go.Proofs.Ytneojmkccgjcgaa
open Go.RowKit

/-- impl.two. -/
theorem two_any (F : Gf.Fd) (hF : Gf.Ok F) (h12 : F.m ≤ 12) (a b : Value) (xs ys : List Nat) (w : World) (ha : Rd w w.heap.size a (nv xs)) (hb : Rd w w.heap.size b (nv ys)) (hx : Tidy xs) (hy : Tidy ys)
    (hx4 : xs.length ≤ 16384) (hy4 : ys.length ≤ 16384) :
    Calls Try.prog 31 #[.agg #[.int .i64 F.p, .int .i64 F.s, .int .i64 F.b], a, b] w fun e w' =>
      ∃ g q1 q2, e = .returned (.tuple #[.pointer (some ⟨q1, 0, none⟩), .pointer (some ⟨q2, 0, none⟩), .nilIface]) ∧ FieldAt w' g F ∧ PolyAt w' q1 g xs ∧ PolyAt w' q2 g ys ∧ Below w.heap.size w w' := by
  have HA := Lib.hid ha; clear ha
  have HB := Lib.hid hb; clear hb
  go_enter Try.func31, Try.ntmps31
  go_wp2_with fail
  refine (implField_any F hF h12 _).mono ?_
  rintro e w1 ⟨g, rfl, hf, hb1⟩
  go_wp2_with fail
  refine (poly_any g a xs _ (HA.out.up (bup (bal (brf w) _) hb1)) hx.1 (by omega)).mono ?_
  rintro e w2 ⟨q1, rfl, hq1, hb2⟩
  rw [tidy_of xs hx] at hq1
  go_wp2_with fail
  refine (poly_any g b ys _ (HB.out.up (bup (bup (bal (brf w) _) hb1) hb2)) hy.1 (by omega)).mono ?_
  rintro e w3 ⟨q2, rfl, hq2, hb3⟩
  rw [tidy_of ys hy] at hq2
  go_wp2
  go_ret3
  exact ⟨g, q1, q2, rfl, (hf.up hb2).up hb3, hq1.up hb3, hq2, bup (bup (bup (bal (brf w) _) hb1) hb2) hb3⟩

/-- impl.list. -/
theorem list_any (q g : Nat) (l : List Nat) (w : World) (hp : PolyAt w q g l) (h4 : l.length ≤ 65536) :
    Calls Try.prog 32 #[.pointer (some ⟨q, 0, none⟩), .nilIface] w fun e w' => ∃ v, e = .returned (.tuple #[v, .bool true]) ∧ RdT w' 3 v (nv l) ∧ Below w.heap.size w w' := by
  obtain ⟨i0, hi0, hz0, hz1, hz2⟩ := info_parts info_int
  have HP := Lib.hid hp; clear hp
  go_enter Try.func32, Try.ntmps32
  go_wp2_with fail
  refine (getCoefficients_any q g l _ HP.out).mono ?_
  rintro e w1 ⟨v, rfl, hv, rfl⟩
  have HV := Lib.hid hv; clear hv
  go_wp2_with (at_builtin; refine list_app_rd _ rfl _ _ _ rfl w1.heap.size 3 i0 _ 8 Try.underlying33 hi0 hz0 hz1 hz2 rfl _ 0 [] rfl (own_nil _ _ _) _ _ (nv l) rfl HV.out.rd (nv_one _) (by rw [nv_len]; unfold maxLen; omega) (by rw [nv_len]; omega) (Nat.le_refl _) ?_; intro v1 w2 ho1 hg1)
  go_ret2
  exact ⟨v1, rfl, by simpa using RdT.of_own ho1, below_grown (brf w1) hg1 (own_nil _ _ 3) (Nat.le_refl _)⟩

/-- impl.PolyTimes. -/
theorem polyTimes_any (F : Gf.Fd) (hF : Gf.Ok F) (h12 : F.m ≤ 12) (a b : Value) (xs ys : List Nat) (w : World) (ha : Rd w w.heap.size a (nv xs)) (hb : Rd w w.heap.size b (nv ys)) (hx : Tidy xs) (hy : Tidy ys)
    (hxs : ∀ x ∈ xs, x < F.s) (hys : ∀ y ∈ ys, y < F.s) (hx4 : xs.length ≤ 16384) (hy4 : ys.length ≤ 16384) :
    Calls Try.prog 17 #[.agg #[.int .i64 F.p, .int .i64 F.s, .int .i64 F.b], a, b] w fun e w' =>
      ∃ v, e = .returned (.tuple #[v, .bool true]) ∧ RdT w' 3 v (nv (tidy (Gf.prod F xs ys))) ∧ Below w.heap.size w w' := by
  have HA := Lib.hid ha; clear ha
  have HB := Lib.hid hb; clear hb
  have HX := Lib.hid hxs; clear hxs
  have HY := Lib.hid hys; clear hys
  go_enter Try.func17, Try.ntmps17
  go_wp2_with fail
  refine (two_any F hF h12 a b xs ys _ (HA.out.up (bal (brf w) _)) (HB.out.up (bal (brf w) _)) hx hy hx4 hy4).mono ?_
  rintro e w1 ⟨g, q1, q2, rfl, hf, h1, h2, hb1⟩
  go_wp2_with fail
  refine (polyMul_any F hF h12 g q1 q2 xs ys _ hf h1 h2 HX.out HY.out hx hy hx4 hy4).mono ?_
  rintro e w2 ⟨q, rfl, hq, hb2⟩
  go_wp2_with fail
  refine (list_any q g _ _ hq (by have h1 := tidy_len (Gf.prod F xs ys); rw [Gf.prod_len] at h1; omega)).mono ?_
  rintro e w3 ⟨v, rfl, hv, hb3⟩
  go_wp2
  go_ret2
  exact ⟨v, rfl, hv, bup (bup (bup (bal (brf w) _) hb1) hb2) hb3⟩
end Go.Proofs.Ytneojmkccgjcgaa
