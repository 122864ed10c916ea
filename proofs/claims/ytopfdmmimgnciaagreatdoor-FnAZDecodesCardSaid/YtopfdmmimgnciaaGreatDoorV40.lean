/-
  WALKS: the reference's sums, shifts, inverses and rests of polynomials.
-/
import Derived.Test.YtopfdmmimgnciaaGreatDoorV08
import Derived.Test.YtopfdmmimgnciaaGreatDoorV39
import Derived.Test.YtopfdmmimgnciaaGreatDoorV12
namespace Go.Proofs.YtopfdmmimgnciaaGreatDoor
open Go.RowKit

/-- spec.RSZero. -/
theorem rsZero_any (v : Value) (xs : List Nat) (w : World) (hv : Rd w w.heap.size v (nv xs)) (hn : 0 < xs.length) :
    Calls Tryz.prog 87 #[v] w fun e w' => e = .returned (.bool (decide (xs = [0]))) ∧ w' = w := by
  obtain ⟨A, ca, rfl, ha1, ha2, ha3⟩ := hv
  simp only [nv_len] at *
  unfold maxLen at ha2
  obtain ⟨ba, oa, rfl, hba, hca⟩ := ha3 hn
  have c0 := hca 0 _ (nv_at xs 0 hn)
  rw [Nat.add_zero] at c0
  by_cases h1 : xs.length = 1
  · have hd : decide (xs = [0]) = decide (xs[0] = 0) := by
      rcases xs with _ | ⟨x, _ | ⟨y, t⟩⟩
      · simp at hn
      · simp
      · simp at h1
    have hb : (((xs[0] : Nat) : Int) == 0) = decide (xs[0] = 0) := by rw [Bool.eq_iff_iff, beq_iff_eq, decide_eq_true_eq]; omega
    rw [hd, ← hb]
    have e1 : ((xs.length : Int) == 1) = true := by simp [h1]
    clear hca ha3 hd hb h1
    generalize xs[0] = r at *
    generalize xs.length = n at *
    go_enter Tryz.func87, Tryz.ntmps87
    go_wp2
    go_ret
    exact ⟨rfl, rfl⟩
  · have hd : decide (xs = [0]) = false := by simp; rintro rfl; exact h1 rfl
    rw [hd]
    have e1 : ((xs.length : Int) == 1) = false := by simp; omega
    clear hca ha3 hd h1 c0
    go_enter Tryz.func87, Tryz.ntmps87
    go_wp2
    go_ret
    exact ⟨rfl, rfl⟩

set_option maxRecDepth 100000 in
/-- spec.RSShifted. -/
theorem shifted_any (v : Value) (xs : List Nat) (d : Nat) (w : World) (hv : Rd w w.heap.size v (nv xs)) (hn : 0 < xs.length) (h4 : xs.length ≤ 16384) (hd : d ≤ 16384) :
    Calls Tryz.prog 59 #[v, .int .i64 d] w fun e w' => ∃ v', e = .returned v' ∧ RdT w' 3 v' (nv (tidy (xs ++ List.replicate d 0))) ∧ Below w.heap.size w w' := by
  obtain ⟨i0, hi0, hz0, hz1, hz2⟩ := info_parts info_int
  have HV := Lib.hid hv; clear hv
  go_enter Tryz.func59, Tryz.ntmps59
  go_wp2_with (first
    | (at_builtin; refine list_app_rd _ rfl _ _ 25 rfl w.heap.size 3 i0 _ 8 Tryz.underlying25 hi0 hz0 hz1 hz2 rfl _ 0 [] rfl (own_empty (Blk.fresh _ _ _) (Nat.le_refl _)) _ _ (nv xs) rfl (HV.out.up (bal (brf w) _)) (nv_one _)
        (by rw [nv_len]; unfold maxLen; omega) (by rw [nv_len]; omega) (by simp) ?_; intro v1 w1 ho1 hg1)
    | (at_builtin; refine list_app_zeros _ rfl _ _ 25 3 rfl w.heap.size 3 i0 _ (.int .i64 0) 8 Tryz.underlying25 Tryz.underlying3 hi0 hz0 hz1 hz2 rfl rfl v1 (0 + (nv xs).length) ([] ++ nv xs) rfl ho1 d rfl
        (by rw [nv_len]; unfold maxLen; omega) (by rw [nv_len]; omega) (Nat.le_trans (by simp) hg1.size) ?_; intro v2 w2 ho2 hg2))
  have hv2 : RdT w2 3 v2 (nv (xs ++ List.replicate d 0)) := by
    have := RdT.of_own ho2
    simpa [nv] using this
  have hb2 : Below w.heap.size w w2 := below_grown (below_grown (bal (brf w) _) hg1 (own_empty (Blk.fresh _ _ _) (Nat.le_refl _)) (by simp)) hg2 ho1 (Nat.le_trans (by simp) hg1.size)
  clear ho1 hg1 ho2 hg2
  have hv2' := hv2
  obtain ⟨A2, c2, rfl, _, _, _⟩ := hv2
  rw [nv_len]
  have HV2 := Lib.hid hv2'; clear hv2'
  go_wp2_with fail
  refine (tidy_any _ (xs ++ List.replicate d 0) _ (by have := HV2.out.rd; rw [nv_len] at this; exact this) (by intro h0; have := congrArg List.length h0; rw [List.length_append, List.length_nil] at this; omega) (by simp; omega)).mono ?_
  rintro e w3 ⟨v3, rfl, hv3, hb3⟩
  go_wp2
  go_ret
  exact ⟨v3, rfl, hv3, bup hb2 hb3⟩

theorem mul_is_one (F : Gf.Fd) (hF : Gf.Ok F) (a b : Nat) (a0 : 0 < a) (ha : a < F.s) (hb : b < F.s) : (((Gf.mul F a b : Nat) : Int) == 1) = decide (b = Gf.inv F a) := by
  rw [Bool.eq_iff_iff, beq_iff_eq, decide_eq_true_eq]
  constructor
  · intro h
    exact Gf.inv_uniq hF a0 ha hb (by omega)
  · rintro rfl
    rw [Gf.mul_inv hF a0 ha]; rfl
set_option maxRecDepth 100000 in
/-- spec.RSInverse. -/
theorem rsInverse_any (F : Gf.Fd) (hF : Gf.Ok F) (h12 : F.m ≤ 12) (a : Nat) (w : World) (a0 : 0 < a) (ha : a < F.s) :
    Calls Tryz.prog 86 #[.agg #[.int .i64 F.p, .int .i64 F.s, .int .i64 F.b], .int .i64 a] w fun e w' => e = .returned (.int .i64 ((Gf.inv F a : Nat) : Int)) ∧ Below w.heap.size w w' := by
  have hs12 := s_le F h12
  have hil := Gf.inv_lt (F := F) hF a
  have hip := Gf.inv_pos hF a
  have HM := Lib.hid (fun b hb => mul_is_one F hF a b a0 ha hb)
  obtain ⟨v, hv⟩ : ∃ v, v = Gf.inv F a := ⟨_, rfl⟩
  rw [← hv] at hil hip ⊢
  have HV := Lib.hid hv; clear hv
  go_enter Tryz.func86, Tryz.ntmps86
  go_wp2
  go_loopw [5] (fun iv wr => ∃ (b : Nat), 1 ≤ b ∧ b ≤ v ∧ iv = .int .i64 b ∧ Hid (Blk wr w.heap.size 30 #[.int .i64 F.p, .int .i64 F.s, .int .i64 F.b]) ∧ Hid (Below w.heap.size w wr)) (fun iv _ => v + 1 - (intOf iv).toNat)
  case atStart => exact ⟨1, Nat.le_refl _, hip, rfl, Lib.hid (Blk.fresh w _ _), Lib.hid (bal (brf w) _)⟩
  case round =>
    obtain ⟨b, hb1, hb, rfl, HX, HW⟩ := hrel
    obtain ⟨x0, x1, x2⟩ := HX.out.three
    have hbs : b < F.s := by omega
    have hm := HM.out b hbs
    by_cases heq : b = v
    · subst heq
      rw [← HV.out, decide_eq_true rfl] at hm
      have hT := fun W => times_any F hF h12 a b W ha hbs
      generalize Gf.mul F a b = m at *
      have HT := Lib.hid hT; clear hT
      go_wp2_with fail
      refine (HT.out _).mono ?_
      rintro e w1 ⟨rfl, hb1'⟩
      go_wp2
      go_ret
      exact ⟨rfl, bup HW.out hb1'⟩
    · have hne : decide (b = Gf.inv F a) = false := by rw [← HV.out]; simpa using heq
      rw [hne] at hm
      have hlt : b < v := by omega
      have hT := fun W => times_any F hF h12 a b W ha hbs
      generalize Gf.mul F a b = m at *
      have HT := Lib.hid hT; clear hT hne
      have hne2 : ¬ b = v := heq
      clear heq
      go_wp2_with fail
      refine (HT.out _).mono ?_
      rintro e w1 ⟨rfl, hb1'⟩
      have HX1 := Lib.hid (HX.out.up hb1')
      have HW1 := Lib.hid (bup HW.out hb1'); clear hb1'
      go_wp2
      go_roundw
      case rel => exact ⟨b + 1, by omega, by omega, by go_num, HX1, HW1⟩
      case measure => simp [intOf]; omega

theorem padd_at (xs ys : List Nat) (i : Nat) (hi : i < max xs.length ys.length) : (Gf.padd xs ys).getD i 0 = (Gf.pad (max xs.length ys.length) xs).getD i 0 ^^^ (Gf.pad (max xs.length ys.length) ys).getD i 0 := by
  unfold Gf.padd
  rw [Gf.xo_at _ _ _ (by rw [Gf.pad_len _ _ (by omega)]; exact hi)]
theorem fill_at (P : List Nat) (N i : Nat) (hi : i < N) (hl : P.length = N) : (fillA P 0 N i).getD i 0 = 0 := by
  unfold fillA
  rw [List.getD, List.getElem?_append_right (by rw [List.length_take]; omega), List.length_take, Nat.min_eq_left (by omega), Nat.sub_self]
  rw [List.getElem?_replicate_of_lt (by omega)]; rfl

set_option maxRecDepth 100000 in
set_option maxHeartbeats 4000000 in
/-- spec.RSPlus. -/
theorem rsPlus_any (a b : Value) (xs ys : List Nat) (w : World) (ha : Rd w w.heap.size a (nv xs)) (hb : Rd w w.heap.size b (nv ys)) (hx : ∀ x ∈ xs, x < 65536) (hy : ∀ y ∈ ys, y < 65536)
    (hxn : 0 < xs.length) (hyn : 0 < ys.length) (hx4 : xs.length ≤ 16384) (hy4 : ys.length ≤ 16384) :
    Calls Tryz.prog 89 #[a, b] w fun e w' => ∃ v, e = .returned v ∧ RdT w' 3 v (nv (tidy (Gf.padd xs ys))) ∧ Below w.heap.size w w' := by
  obtain ⟨A, ca, rfl, ha1, ha2, ha3⟩ := ha
  obtain ⟨C, cb, rfl, hb1, hb2, hb3⟩ := hb
  simp only [nv_len] at *
  unfold maxLen at ha2 hb2
  obtain ⟨ba, oa, rfl, hba, hca⟩ := ha3 hxn
  obtain ⟨bb, ob, rfl, hbb, hcb⟩ := hb3 hyn
  have HA := Lib.hid hca; clear hca ha3
  have HB := Lib.hid hcb; clear hcb hb3
  have HX := Lib.hid hx; clear hx
  have HY := Lib.hid hy; clear hy
  have hPA := fun i hi => padd_at xs ys i hi
  have hPL := Gf.padd_len xs ys
  obtain ⟨P, hP⟩ : ∃ P, P = Gf.padd xs ys := ⟨_, rfl⟩
  rw [← hP] at hPA hPL ⊢
  clear hP
  rcases Nat.lt_or_ge xs.length ys.length with hlen | hlen
  · have hm : max xs.length ys.length = ys.length := by omega
    rw [hm] at hPA hPL
    have HPA := Lib.hid hPA; clear hPA
    have HPL := Lib.hid hPL; clear hPL hm
    have hmk := fun W => mk_ints ys.length W (by omega)
    obtain ⟨d, hd⟩ : ∃ d : Nat, ys.length = xs.length + d := ⟨ys.length - xs.length, by omega⟩
    have hd1 : (xs.length : Int) - (ys.length : Int) = - (d : Int) := by omega
    have hd0 : (ys.length : Int) - (ys.length : Int) = 0 := by omega
    have hd2 : ys.length ≤ xs.length + d := by omega
    have hd3 : xs.length + d ≤ ys.length := by omega
    have hlen2 : xs.length ≤ ys.length := by omega
    have HD := Lib.hid hd; clear hd
    have hmxI : max (xs.length : Int) (ys.length : Int) = (ys.length : Int) := by omega
    go_enter Tryz.func89, Tryz.ntmps89
    go_wp2
    clear hmk
    go_loopw [7] (fun iv wr => ∃ (i : Nat), i ≤ ys.length ∧ iv = .int .i64 i ∧ Hid (Blk wr w.heap.size 3 (nv (fillA P 0 ys.length i)).toArray) ∧ Hid (Below w.heap.size w wr)) (fun iv _ => ys.length - (intOf iv).toNat)
    case atStart => exact ⟨0, Nat.zero_le _, rfl, Lib.hid (by rw [fill_zero]; exact Blk.fresh w _ _), Lib.hid (bal (brf w) _)⟩
    case round =>
      obtain ⟨i, hi, rfl, HBk, HW⟩ := hrel
      by_cases hlt : i < ys.length
      · have hPi : i < P.length := by rw [HPL.out]; exact hlt
        have hfl := fill_len P 0 ys.length i (by omega) (by rw [HPL.out]; exact Nat.le_refl _)
        have hset := fill_set P 0 ys.length i hPi (by rw [HPL.out]; exact Nat.le_refl _)
        have hv := HPA.out i hlt
        rw [getD_lt P _ _ hPi, Gf.pad_same ys _ (Nat.le_refl _)] at hv
        have cb1 := HB.out i _ (nv_at ys i hlt)
        have h0 := fill_at P ys.length i hlt HPL.out
        rw [getD_lt _ _ _ (by omega)] at h0
        have cO : wr.cell? ⟨w.heap.size, i, none⟩ = some (.int .i64 0) := by rw [HBk.out.cell, nv_cell _ _ (by omega), h0]; rfl
        have fO : wr.frozen? ⟨w.heap.size, i, none⟩ = false := HBk.out.frozen _
        have hyi := HY.out _ (List.getElem_mem hlt)
        rw [getD_lt ys _ _ hlt] at hv
        generalize ys[i] = y at *
        have HSet := Lib.hid hset; have HV := Lib.hid hv
        clear hset hv h0
        have hsub : ys.length - xs.length = d := by rw [HD.out]; omega
        by_cases hdi : d ≤ i
        · have hid : i - d < xs.length := by omega
          have hvx := pad_at_hi (n := ys.length) (xs := xs) (j := i) (by rw [HD.out]; omega)
          rw [hsub, getD_lt xs _ _ hid] at hvx
          have ca1 := HA.out (i - d) _ (nv_at xs (i - d) hid)
          have hxi := HX.out _ (List.getElem_mem hid)
          have hV2 := HV.out
          rw [hvx] at hV2
          generalize xs[i - d] = x at *
          have hset2 := HSet.out
          rw [hV2] at hset2
          have HB1 := Lib.hid (HBk.out.drew.put i (.int .i64 ((x : Nat) : Int)))
          have HW1 := Lib.hid (HW.out.drew.setCell (p := ⟨w.heap.size, i, none⟩) (Nat.le_refl _) (.int .i64 ((x : Nat) : Int)))
          rw [nv_set] at HB1
          have hn1 : ((fillA P 0 ys.length i).set i x).length = ys.length := by rw [List.length_set, hfl]
          have cA : wr.cell? ⟨ba, oa + (i - d), none⟩ = some (.int .i64 ((x : Nat) : Int)) := cell_up ca1 HW.out
          have cB : (wr.drew.setCell ⟨w.heap.size, i, none⟩ (.int .i64 ((x : Nat) : Int))).cell? ⟨bb, ob + i, none⟩ = some (.int .i64 ((y : Nat) : Int)) := cell_up cb1 HW1.out
          have cO1 : (wr.drew.setCell ⟨w.heap.size, i, none⟩ (.int .i64 ((x : Nat) : Int))).cell? ⟨w.heap.size, i, none⟩ = some (.int .i64 ((x : Nat) : Int)) := by
            rw [HB1.out.cell, nv_cell _ _ (by omega), List.getElem_set_self]
          have fO1 : (wr.drew.setCell ⟨w.heap.size, i, none⟩ (.int .i64 ((x : Nat) : Int))).frozen? ⟨w.heap.size, i, none⟩ = false := HB1.out.frozen _
          have e1 : bits .xor .i64 0 (x : Int) = (x : Int) := by
            have := i64_xor 0 x (by omega) (by omega)
            rw [Nat.zero_xor] at this; exact this
          have e2 := i64_xor x y (by omega) (by omega)
          have s0 : -(d : Int) + (i : Int) = (i : Int) - (d : Int) := by omega
          obtain ⟨s1, s2, s3, s4⟩ := sub_ix i d xs.length hdi hid (by omega)
          have s5 : (0 : Int) ≤ -(d : Int) + (i : Int) := by omega
          have HB2 := Lib.hid (HB1.out.drew.put i (.int .i64 ((x ^^^ y : Nat) : Int)))
          have HW2 := Lib.hid (HW1.out.drew.setCell (p := ⟨w.heap.size, i, none⟩) (Nat.le_refl _) (.int .i64 ((x ^^^ y : Nat) : Int)))
          rw [nv_set, List.set_set, hset2] at HB2
          clear hset2 hV2 hvx HV HSet cb1 ca1 hsub HBk HW HB1 HW1
          go_wp2
          refine Can.wp_region_can (fun w' => w'.cell? ⟨w.heap.size, i, none⟩ = some (.int .i64 0) ∧ w'.cell? ⟨ba, oa + (i - d), none⟩ = some (.int .i64 ((x : Nat) : Int)) ∧ w'.frozen? ⟨w.heap.size, i, none⟩ = false) 12 [0, 1, 2, 3, 4, 5, 6, 7, 8, 9, 10, 11, 12] (by kernel_rfl) (by kernel_rfl) (fun _ _ d _ _ h => by cases d <;> exact h) ⟨cO, cA, fO⟩ (fun hHeld => ?_)
          repeat (refine Can.can_pure (v := ?_) rfl rfl (Or.inl ⟨by rfl, ?_⟩) ?_; rotate_left; (focus ((intro w hSw); (try dsimp only at hSw); go_simp; (try with_reducible rfl))); (try simp only [Act.put, List.getElem_toArray, List.getElem_cons_succ, List.getElem_cons_zero, List.setIfInBounds_toArray, List.set_cons_zero, List.set_cons_succ]))
          have f1 := hHeld.2.2
          have c1 := hHeld.1
          refine Can.can_tail rfl rfl (by rfl) (fun K hK => ?_)
          go_simp
          refine hK.out _ _ ?_
          clear hK K
          clear hHeld f1 c1 cA cO fO
          go_wp2
          refine Can.wp_region_can (fun w' => w'.cell? ⟨w.heap.size, i, none⟩ = some (.int .i64 ((x : Nat) : Int)) ∧ w'.cell? ⟨bb, ob + i, none⟩ = some (.int .i64 ((y : Nat) : Int)) ∧ w'.frozen? ⟨w.heap.size, i, none⟩ = false) 12 [0, 1, 2, 3, 4, 5, 6, 7, 8, 9, 10, 11, 12] (by kernel_rfl) (by kernel_rfl) (fun _ _ d _ _ h => by cases d <;> exact h) ⟨cO1, cB, fO1⟩ (fun hHeld => ?_)
          repeat (refine Can.can_pure (v := ?_) rfl rfl (Or.inl ⟨by rfl, ?_⟩) ?_; rotate_left; (focus ((intro w hSw); (try dsimp only at hSw); go_simp; (try with_reducible rfl))); (try simp only [Act.put, List.getElem_toArray, List.getElem_cons_succ, List.getElem_cons_zero, List.setIfInBounds_toArray, List.set_cons_zero, List.set_cons_succ]))
          have f1 := hHeld.2.2
          have c1 := hHeld.1
          refine Can.can_tail rfl rfl (by rfl) (fun K hK => ?_)
          go_simp
          refine hK.out _ _ ?_
          clear hK K
          clear hHeld f1 c1 cB cO1 fO1 s0 s1 s2 s3 s4 s5
          go_wp2
          go_roundw
          case rel => exact ⟨i + 1, by omega, by go_num, HB2, HW2⟩
          case measure => simp [intOf]; omega
        · have hvx := pad_at_lo (n := ys.length) (xs := xs) (j := i) (by rw [HD.out]; omega)
          have hV2 := HV.out
          rw [hvx, Nat.zero_xor] at hV2
          have hset2 := HSet.out
          rw [hV2] at hset2
          have HB1 := Lib.hid (HBk.out.drew.put i (.int .i64 ((y : Nat) : Int)))
          have HW1 := Lib.hid (HW.out.drew.setCell (p := ⟨w.heap.size, i, none⟩) (Nat.le_refl _) (.int .i64 ((y : Nat) : Int)))
          rw [nv_set, hset2] at HB1
          have cB : wr.cell? ⟨bb, ob + i, none⟩ = some (.int .i64 ((y : Nat) : Int)) := cell_up cb1 HW.out
          have e1 : bits .xor .i64 0 (y : Int) = (y : Int) := by
            have := i64_xor 0 y (by omega) (by omega)
            rw [Nat.zero_xor] at this; exact this
          have s5 : ¬ (0 : Int) ≤ -(d : Int) + (i : Int) := by omega
          have s6 : -(d : Int) + (i : Int) < 0 := by omega
          clear hset2 hV2 hvx HV HSet HBk HW
          go_wp2
          refine Can.wp_region_can (fun w' => w'.cell? ⟨w.heap.size, i, none⟩ = some (.int .i64 0) ∧ w'.cell? ⟨bb, ob + i, none⟩ = some (.int .i64 ((y : Nat) : Int)) ∧ w'.frozen? ⟨w.heap.size, i, none⟩ = false) 12 [0, 1, 2, 3, 4, 5, 6, 7, 8, 9, 10, 11, 12] (by kernel_rfl) (by kernel_rfl) (fun _ _ d _ _ h => by cases d <;> exact h) ⟨cO, cB, fO⟩ (fun hHeld => ?_)
          repeat (refine Can.can_pure (v := ?_) rfl rfl (Or.inl ⟨by rfl, ?_⟩) ?_; rotate_left; (focus ((intro w hSw); (try dsimp only at hSw); go_simp; (try with_reducible rfl))); (try simp only [Act.put, List.getElem_toArray, List.getElem_cons_succ, List.getElem_cons_zero, List.setIfInBounds_toArray, List.set_cons_zero, List.set_cons_succ]))
          have f1 := hHeld.2.2
          have c1 := hHeld.1
          refine Can.can_tail rfl rfl (by rfl) (fun K hK => ?_)
          go_simp
          refine hK.out _ _ ?_
          clear hK K
          clear hHeld f1 c1 cB cO fO
          go_wp2
          go_roundw
          case rel => exact ⟨i + 1, by omega, by go_num, HB1, HW1⟩
          case measure => simp [intOf]; omega
      · obtain rfl : i = ys.length := by omega
        have HBk2 : Hid (Blk wr w.heap.size 3 (nv P).toArray) := Lib.hid (by
          have := HBk.out
          have e := fill_full P 0
          rw [HPL.out] at e
          rw [e] at this; exact this)
        clear HBk
        go_wp2_with fail
        refine (tidy_any _ P _ (Rd.of_blk HBk2.out (by rw [nv_len, HPL.out]) (by rw [nv_len, HPL.out]; omega) (by unfold maxLen; omega)) (by intro h0; have := HPL.out; rw [h0] at this; simp at this; omega) (by rw [HPL.out]; omega)).mono ?_
        rintro e w3 ⟨v3, rfl, hv3, hb3⟩
        go_wp2
        go_ret
        exact ⟨v3, rfl, hv3, bup HW.out hb3⟩
  · have hm : max xs.length ys.length = xs.length := by omega
    rw [hm] at hPA hPL
    have HPA := Lib.hid hPA; clear hPA
    have HPL := Lib.hid hPL; clear hPL hm
    have hmk := fun W => mk_ints xs.length W (by omega)
    obtain ⟨d, hd⟩ : ∃ d : Nat, xs.length = ys.length + d := ⟨xs.length - ys.length, by omega⟩
    have hd1 : (ys.length : Int) - (xs.length : Int) = - (d : Int) := by omega
    have hd0 : (xs.length : Int) - (xs.length : Int) = 0 := by omega
    have hd2 : xs.length ≤ ys.length + d := by omega
    have hd3 : ys.length + d ≤ xs.length := by omega
    have HD := Lib.hid hd; clear hd
    have hmxI : max (xs.length : Int) (ys.length : Int) = (xs.length : Int) := by omega
    go_enter Tryz.func89, Tryz.ntmps89
    go_wp2
    clear hmk
    go_loopw [7] (fun iv wr => ∃ (i : Nat), i ≤ xs.length ∧ iv = .int .i64 i ∧ Hid (Blk wr w.heap.size 3 (nv (fillA P 0 xs.length i)).toArray) ∧ Hid (Below w.heap.size w wr)) (fun iv _ => xs.length - (intOf iv).toNat)
    case atStart => exact ⟨0, Nat.zero_le _, rfl, Lib.hid (by rw [fill_zero]; exact Blk.fresh w _ _), Lib.hid (bal (brf w) _)⟩
    case round =>
      obtain ⟨i, hi, rfl, HBk, HW⟩ := hrel
      by_cases hlt : i < xs.length
      · have hPi : i < P.length := by rw [HPL.out]; exact hlt
        have hfl := fill_len P 0 xs.length i (by omega) (by rw [HPL.out]; exact Nat.le_refl _)
        have hset := fill_set P 0 xs.length i hPi (by rw [HPL.out]; exact Nat.le_refl _)
        have hv := HPA.out i hlt
        rw [getD_lt P _ _ hPi, Gf.pad_same xs _ (Nat.le_refl _)] at hv
        have ca1 := HA.out i _ (nv_at xs i hlt)
        have h0 := fill_at P xs.length i hlt HPL.out
        rw [getD_lt _ _ _ (by omega)] at h0
        have cO : wr.cell? ⟨w.heap.size, i, none⟩ = some (.int .i64 0) := by rw [HBk.out.cell, nv_cell _ _ (by omega), h0]; rfl
        have fO : wr.frozen? ⟨w.heap.size, i, none⟩ = false := HBk.out.frozen _
        have hxi := HX.out _ (List.getElem_mem hlt)
        rw [getD_lt xs _ _ hlt] at hv
        generalize xs[i] = x at *
        have cA : wr.cell? ⟨ba, oa + i, none⟩ = some (.int .i64 ((x : Nat) : Int)) := cell_up ca1 HW.out
        have e1 : bits .xor .i64 0 (x : Int) = (x : Int) := by
          have := i64_xor 0 x (by omega) (by omega)
          rw [Nat.zero_xor] at this; exact this
        have HSet := Lib.hid hset; have HV := Lib.hid hv
        have H0 := Lib.hid h0
        clear hset hv h0 ca1
        have HB1 := Lib.hid (HBk.out.drew.put i (.int .i64 ((x : Nat) : Int)))
        have HW1 := Lib.hid (HW.out.drew.setCell (p := ⟨w.heap.size, i, none⟩) (Nat.le_refl _) (.int .i64 ((x : Nat) : Int)))
        rw [nv_set] at HB1
        have hn1 : ((fillA P 0 xs.length i).set i x).length = xs.length := by rw [List.length_set, hfl]
        by_cases hdi : d ≤ i
        · have hid : i - d < ys.length := by omega
          have hvy := pad_at_hi (n := xs.length) (xs := ys) (j := i) (by rw [HD.out]; omega)
          have hsub : xs.length - ys.length = d := by rw [HD.out]; omega
          rw [hsub, getD_lt ys _ _ hid] at hvy
          have cb1 := HB.out (i - d) _ (nv_at ys (i - d) hid)
          have hyi := HY.out _ (List.getElem_mem hid)
          have hV2 := HV.out
          rw [hvy] at hV2
          generalize ys[i - d] = y at *
          have hset2 := HSet.out
          rw [hV2] at hset2
          have cB : (wr.drew.setCell ⟨w.heap.size, i, none⟩ (.int .i64 ((x : Nat) : Int))).cell? ⟨bb, ob + (i - d), none⟩ = some (.int .i64 ((y : Nat) : Int)) := cell_up cb1 HW1.out
          have cO1 : (wr.drew.setCell ⟨w.heap.size, i, none⟩ (.int .i64 ((x : Nat) : Int))).cell? ⟨w.heap.size, i, none⟩ = some (.int .i64 ((x : Nat) : Int)) := by
            rw [HB1.out.cell, nv_cell _ _ (by omega), List.getElem_set_self]
          have fO1 : (wr.drew.setCell ⟨w.heap.size, i, none⟩ (.int .i64 ((x : Nat) : Int))).frozen? ⟨w.heap.size, i, none⟩ = false := HB1.out.frozen _
          have e2 := i64_xor x y (by omega) (by omega)
          have s0 : -(d : Int) + (i : Int) = (i : Int) - (d : Int) := by omega
          obtain ⟨s1, s2, s3, s4⟩ := sub_ix i d ys.length hdi hid (by omega)
          have s5 : (0 : Int) ≤ -(d : Int) + (i : Int) := by omega
          have HB2 := Lib.hid (HB1.out.drew.put i (.int .i64 ((x ^^^ y : Nat) : Int)))
          have HW2 := Lib.hid (HW1.out.drew.setCell (p := ⟨w.heap.size, i, none⟩) (Nat.le_refl _) (.int .i64 ((x ^^^ y : Nat) : Int)))
          rw [nv_set, List.set_set, hset2] at HB2
          clear hset2 hV2 hvy HV HSet H0 cb1 hsub HBk HW HB1 HW1
          go_wp2
          refine Can.wp_region_can (fun w' => w'.cell? ⟨w.heap.size, i, none⟩ = some (.int .i64 0) ∧ w'.cell? ⟨ba, oa + i, none⟩ = some (.int .i64 ((x : Nat) : Int)) ∧ w'.frozen? ⟨w.heap.size, i, none⟩ = false) 12 [0, 1, 2, 3, 4, 5, 6, 7, 8, 9, 10, 11, 12] (by kernel_rfl) (by kernel_rfl) (fun _ _ d _ _ h => by cases d <;> exact h) ⟨cO, cA, fO⟩ (fun hHeld => ?_)
          repeat (refine Can.can_pure (v := ?_) rfl rfl (Or.inl ⟨by rfl, ?_⟩) ?_; rotate_left; (focus ((intro w hSw); (try dsimp only at hSw); go_simp; (try with_reducible rfl))); (try simp only [Act.put, List.getElem_toArray, List.getElem_cons_succ, List.getElem_cons_zero, List.setIfInBounds_toArray, List.set_cons_zero, List.set_cons_succ]))
          have f1 := hHeld.2.2
          have c1 := hHeld.1
          refine Can.can_tail rfl rfl (by rfl) (fun K hK => ?_)
          go_simp
          refine hK.out _ _ ?_
          clear hK K
          clear hHeld f1 c1 cA cO fO
          go_wp2
          refine Can.wp_region_can (fun w' => w'.cell? ⟨w.heap.size, i, none⟩ = some (.int .i64 ((x : Nat) : Int)) ∧ w'.cell? ⟨bb, ob + (i - d), none⟩ = some (.int .i64 ((y : Nat) : Int)) ∧ w'.frozen? ⟨w.heap.size, i, none⟩ = false) 12 [0, 1, 2, 3, 4, 5, 6, 7, 8, 9, 10, 11, 12] (by kernel_rfl) (by kernel_rfl) (fun _ _ d _ _ h => by cases d <;> exact h) ⟨cO1, cB, fO1⟩ (fun hHeld => ?_)
          repeat (refine Can.can_pure (v := ?_) rfl rfl (Or.inl ⟨by rfl, ?_⟩) ?_; rotate_left; (focus ((intro w hSw); (try dsimp only at hSw); go_simp; (try with_reducible rfl))); (try simp only [Act.put, List.getElem_toArray, List.getElem_cons_succ, List.getElem_cons_zero, List.setIfInBounds_toArray, List.set_cons_zero, List.set_cons_succ]))
          have f1 := hHeld.2.2
          have c1 := hHeld.1
          refine Can.can_tail rfl rfl (by rfl) (fun K hK => ?_)
          go_simp
          refine hK.out _ _ ?_
          clear hK K
          clear hHeld f1 c1 cB cO1 fO1 s0 s1 s2 s3 s4 s5
          go_wp2
          go_roundw
          case rel => exact ⟨i + 1, by omega, by go_num, HB2, HW2⟩
          case measure => simp [intOf]; omega
        · have hvy := pad_at_lo (n := xs.length) (xs := ys) (j := i) (by rw [HD.out]; omega)
          have hV2 := HV.out
          rw [hvy, Nat.xor_zero] at hV2
          have hset2 := HSet.out
          rw [hV2] at hset2
          rw [hset2] at HB1
          have s5 : ¬ (0 : Int) ≤ -(d : Int) + (i : Int) := by omega
          have s6 : -(d : Int) + (i : Int) < 0 := by omega
          clear hset2 hV2 hvy HV HSet H0 HBk HW
          go_wp2
          refine Can.wp_region_can (fun w' => w'.cell? ⟨w.heap.size, i, none⟩ = some (.int .i64 0) ∧ w'.cell? ⟨ba, oa + i, none⟩ = some (.int .i64 ((x : Nat) : Int)) ∧ w'.frozen? ⟨w.heap.size, i, none⟩ = false) 12 [0, 1, 2, 3, 4, 5, 6, 7, 8, 9, 10, 11, 12] (by kernel_rfl) (by kernel_rfl) (fun _ _ d _ _ h => by cases d <;> exact h) ⟨cO, cA, fO⟩ (fun hHeld => ?_)
          repeat (refine Can.can_pure (v := ?_) rfl rfl (Or.inl ⟨by rfl, ?_⟩) ?_; rotate_left; (focus ((intro w hSw); (try dsimp only at hSw); go_simp; (try with_reducible rfl))); (try simp only [Act.put, List.getElem_toArray, List.getElem_cons_succ, List.getElem_cons_zero, List.setIfInBounds_toArray, List.set_cons_zero, List.set_cons_succ]))
          have f1 := hHeld.2.2
          have c1 := hHeld.1
          refine Can.can_tail rfl rfl (by rfl) (fun K hK => ?_)
          go_simp
          refine hK.out _ _ ?_
          clear hK K
          clear hHeld f1 c1 cA cO fO
          go_wp2
          go_roundw
          case rel => exact ⟨i + 1, by omega, by go_num, HB1, HW1⟩
          case measure => simp [intOf]; omega
      · obtain rfl : i = xs.length := by omega
        have HBk2 : Hid (Blk wr w.heap.size 3 (nv P).toArray) := Lib.hid (by
          have := HBk.out
          have e := fill_full P 0
          rw [HPL.out] at e
          rw [e] at this; exact this)
        clear HBk
        go_wp2_with fail
        refine (tidy_any _ P _ (Rd.of_blk HBk2.out (by rw [nv_len, HPL.out]) (by rw [nv_len, HPL.out]; omega) (by unfold maxLen; omega)) (by intro h0; have := HPL.out; rw [h0] at this; simp at this; omega) (by rw [HPL.out]; omega)).mono ?_
        rintro e w3 ⟨v3, rfl, hv3, hb3⟩
        go_wp2
        go_ret
        exact ⟨v3, rfl, hv3, bup HW.out hb3⟩
end Go.Proofs.YtopfdmmimgnciaaGreatDoor
