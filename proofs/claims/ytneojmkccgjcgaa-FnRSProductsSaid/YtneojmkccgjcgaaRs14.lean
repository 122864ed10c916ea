/-
  THE LAW of products, walked.
-/
import Derived.Test.YtneojmkccgjcgaaRs13
namespace Go.Proofs.Ytneojmkccgjcgaa
open Go.RowKit

set_option maxRecDepth 100000 in
set_option maxHeartbeats 1000000 in
theorem products_walk (n : Nat) (hn : n < 256) (a b : Value) (xs ys : List Int) (w : World) (ha : Rd w w.heap.size a (vals .i64 xs)) (hb : Rd w w.heap.size b (vals .i64 ys)) :
    Calls Try.prog 6 #[.int .u8 n, a, b] w fun e w' => e = .returned (.bool true) ∧ Below w.heap.size w w' := by
  have hF := fld_ok n
  have h12 := fld_12 n
  have hs12 := s_le (fld n) h12
  have htx := polyOf_tidy (fld n) xs 24
  have hty := polyOf_tidy (fld n) ys 24
  have hlx := polyOf_len (fld n) xs 24 (by decide)
  have hly := polyOf_len (fld n) ys 24 (by decide)
  have hx := polyOf_lt (fld n) xs 24
  have hy := polyOf_lt (fld n) ys 24
  have ha0 := ha
  have hb0 := hb
  obtain ⟨A, ca, rfl, ha1, ha2, ha3⟩ := ha
  obtain ⟨C, cb, rfl, hb1, hb2, hb3⟩ := hb
  simp only [vals_len] at *
  unfold maxLen at ha2 hb2
  clear ha3 hb3
  have HA := Lib.hid ha0; clear ha0
  have HB := Lib.hid hb0; clear hb0
  have HX := Lib.hid hx; clear hx
  have HY := Lib.hid hy; clear hy
  by_cases hbig : 2147483647 < xs.length
  · have e1 : decide ((2147483647 : Int) < (xs.length : Int)) = true := by simp; omega
    go_enter Try.func6, Try.ntmps6
    go_wp2
    go_ret
    exact ⟨rfl, brf w⟩
  · have e1 : decide ((2147483647 : Int) < (xs.length : Int)) = false := by simp; omega
    by_cases hbig2 : 2147483647 < ys.length
    · have e2 : decide ((2147483647 : Int) < (ys.length : Int)) = true := by simp; omega
      go_enter Try.func6, Try.ntmps6
      go_wp2
      go_ret
      exact ⟨rfl, brf w⟩
    · have e2 : decide ((2147483647 : Int) < (ys.length : Int)) = false := by simp; omega
      go_enter Try.func6, Try.ntmps6
      go_wp2_with fail
      refine (field_any n _ hn).mono ?_
      rintro e w1 ⟨rfl, hb1'⟩
      unfold fdV
      generalize fld n = F at *
      go_wp2_with fail
      clear e1 e2
      obtain ⟨x0, x1, x2⟩ := (Blk.fresh w1 26 #[.int .i64 F.p, .int .i64 F.s, .int .i64 F.b]).three
      refine Can.wp_region_can (fun w' => w'.cell? ⟨w1.heap.size, 0, none⟩ = some (.int .i64 F.p) ∧ w'.cell? ⟨w1.heap.size, 1, none⟩ = some (.int .i64 F.s) ∧ w'.cell? ⟨w1.heap.size, 2, none⟩ = some (.int .i64 F.b) ∧
          Below w.heap.size w w') 999 [0, 1, 3, 4, 2, 5, 6, 7] (by kernel_rfl) (by kernel_rfl) (fun _ _ d _ _ h => by cases d <;> exact h) ⟨x0, x1, x2, (bal hb1' _).drew⟩ (fun hHeld => ?_)
      repeat (refine Can.can_pure (v := ?_) rfl rfl (Or.inl ⟨by rfl, ?_⟩) ?_; rotate_left; focus ((intro w hSw); (try dsimp only at hSw); go_simp; (try with_reducible rfl)); (try simp only [Act.put, List.setIfInBounds_toArray, List.set_cons_zero, List.set_cons_succ]))
      refine Can.can_eff rfl rfl (by rfl) (fun K hK => ?_)
      go_simp
      refine (rsPoly_any F hs12 _ xs 24 _ (HA.out.up hHeld.2.2.2) (by decide)).mono ?_
      rintro e w2 ⟨v1, rfl, hv1, hb2'⟩
      refine hK.out _ _ ⟨cell_up hHeld.1 hb2', cell_up hHeld.2.1 hb2', cell_up hHeld.2.2.1 hb2', bup hHeld.2.2.2 hb2'⟩ (fun hHeld1 => ?_)
      clear hK K hHeld
      (try simp only [Act.put, List.setIfInBounds_toArray, List.set_cons_zero, List.set_cons_succ])
      refine Can.can_eff rfl rfl (by rfl) (fun K hK => ?_)
      go_simp
      refine (rsPoly_any F hs12 _ ys 24 _ (HB.out.up hHeld1.2.2.2) (by decide)).mono ?_
      rintro e w3 ⟨v2, rfl, hv2, hb3'⟩
      refine hK.out _ _ ⟨cell_up hHeld1.1 hb3', cell_up hHeld1.2.1 hb3', cell_up hHeld1.2.2.1 hb3', bup hHeld1.2.2.2 hb3'⟩ (fun hHeld2 => ?_)
      clear hK K hHeld1
      (try simp only [Act.put, List.setIfInBounds_toArray, List.set_cons_zero, List.set_cons_succ])
      repeat (refine Can.can_pure (v := ?_) rfl rfl (Or.inl ⟨by rfl, ?_⟩) ?_; rotate_left; focus ((intro w hSw); (try dsimp only at hSw); go_simp; (try with_reducible rfl)); (try simp only [Act.put, List.setIfInBounds_toArray, List.set_cons_zero, List.set_cons_succ]))
      refine Can.can_done ?_
      obtain ⟨y0, y1, y2, hbw⟩ := hHeld2
      clear x0 x1 x2
      have HV1 := Lib.hid (hv1.up hb3'); clear hv1
      have HV2 := Lib.hid hv2; clear hv2
      generalize polyOf F xs 24 = ps at *
      generalize polyOf F ys 24 = qs at *
      go_wp2_with fail
      refine (polyTimes_any F hF h12 v1 v2 ps qs _ HV1.out.rd HV2.out.rd htx hty HX.out HY.out (by omega) (by omega)).mono ?_
      rintro e w4 ⟨v3, rfl, hv3, hb4'⟩
      have z0 := cell_up y0 hb4'
      have z1 := cell_up y1 hb4'
      have z2 := cell_up y2 hb4'
      clear y0 y1 y2
      have HV3 := Lib.hid hv3; clear hv3
      have hp1 : 0 < ps.length := by rcases ps with _ | ⟨x, r⟩; exact absurd rfl htx.1; simp
      have hp2 : 0 < qs.length := by rcases qs with _ | ⟨x, r⟩; exact absurd rfl hty.1; simp
      go_wp2_with fail
      refine (product_any F hF h12 v1 v2 ps qs _ (HV1.out.up hb4').rd (HV2.out.up hb4').rd HX.out HY.out hp1 hp2 (by omega) (by omega)).mono ?_
      rintro e w5 ⟨v4, rfl, hv4, hb5'⟩
      go_wp2_with fail
      refine (same_any v3 v4 _ _ _ (HV3.out.up hb5').rd hv4.rd).mono ?_
      rintro e w6 ⟨rfl, hb6'⟩
      rw [decide_eq_true rfl]
      go_wp2
      go_ret
      exact ⟨rfl, bup (bup (bup hbw hb4') hb5') hb6'⟩
end Go.Proofs.Ytneojmkccgjcgaa
