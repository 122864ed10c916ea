/-
  WALKS: the product of two polynomials, as the package makes it.
-/
import Derived.Test.YtibdeekgcbmofaaRs11
import Derived.Test.YtibdeekgcbmofaaBase2
namespace Go.Proofs.Ytibdeekgcbmofaa
open Go.RowKit

theorem tidy_zero {l : List Nat} (h : Tidy l) (h0 : l.getD 0 0 = 0) : l = [0] := by
  rcases l with _ | ⟨x, _ | ⟨y, r⟩⟩
  · exact absurd rfl h.1
  · simp at h0; rw [h0]
  · rcases h.2 with h1 | h1
    · simp at h1
    · exact absurd h0 h1
theorem tidy_rep (n : Nat) (h : 0 < n) : tidy (List.replicate n 0) = [0] :=
  tidy_zeros _ (by intro h0; have := congrArg List.length h0; simp at this; omega) (fun x hx => List.eq_of_mem_replicate hx)

theorem isZero_yes (q g : Nat) (l : List Nat) (w : World) (hp : PolyAt w q g l) (hne : l ≠ []) (h : l.getD 0 0 = 0) :
    Calls Try.prog 48 #[.pointer (some ⟨q, 0, none⟩)] w fun e w' => e = .returned (.bool true) ∧ w' = w :=
  (isZero_any q g l w hp hne).mono fun e w' ⟨he, hw⟩ => ⟨by rw [he, decide_eq_true h], hw⟩
theorem isZero_no (q g : Nat) (l : List Nat) (w : World) (hp : PolyAt w q g l) (hne : l ≠ []) (h : ¬ l.getD 0 0 = 0) :
    Calls Try.prog 48 #[.pointer (some ⟨q, 0, none⟩)] w fun e w' => e = .returned (.bool false) ∧ w' = w :=
  (isZero_any q g l w hp hne).mono fun e w' ⟨he, hw⟩ => ⟨by rw [he, decide_eq_false h], hw⟩

set_option maxRecDepth 100000 in
set_option maxHeartbeats 4000000 in
/-- (*GenericGFPoly).Multiply. -/
theorem polyMul_any (F : Gf.Fd) (hF : Gf.Ok F) (h12 : F.m ≤ 12) (g q1 q2 : Nat) (xs ys : List Nat) (w : World) (hf : FieldAt w g F) (hp1 : PolyAt w q1 g xs) (hp2 : PolyAt w q2 g ys)
    (hx : ∀ x ∈ xs, x < F.s) (hy : ∀ y ∈ ys, y < F.s) (hxt : Tidy xs) (hyt : Tidy ys) (hx4 : xs.length ≤ 16384) (hy4 : ys.length ≤ 16384) :
    Calls Try.prog 52 #[.pointer (some ⟨q1, 0, none⟩), .pointer (some ⟨q2, 0, none⟩)] w (MadePoly w g (tidy (Gf.prod F xs ys))) := by
  have hs12 := s_le F h12
  have hxn : 0 < xs.length := by rcases xs with _ | ⟨x, r⟩; exact absurd rfl hxt.1; simp
  have hyn : 0 < ys.length := by rcases ys with _ | ⟨x, r⟩; exact absurd rfl hyt.1; simp
  have hne := fun W => run_neq_self (P := Try.prog) (⟨g, 0, none⟩ : Addr) Try.underlying58 (by kernel_rfl) W
  obtain ⟨sx, kx, vx⟩ := id hp1
  obtain ⟨sy, ky, vy⟩ := id hp2
  obtain ⟨A, ca, rfl, ha1, ha2, ha3⟩ := vx.rd
  obtain ⟨C, cb, rfl, hb1, hb2, hb3⟩ := vy.rd
  simp only [nv_len] at *
  unfold maxLen at ha2 hb2
  obtain ⟨ba, oa, rfl, hba, hca⟩ := ha3 hxn
  obtain ⟨bb, ob, rfl, hbb, hcb⟩ := hb3 hyn
  have x0 : w.cell? ⟨q1, 0, none⟩ = some (.pointer (some ⟨g, 0, none⟩)) := by rw [kx.cell]; rfl
  have x1 : w.cell? ⟨q1, 1, none⟩ = some (.slice (some ⟨ba, oa, none⟩) xs.length ca) := by rw [kx.cell]; rfl
  have y0 : w.cell? ⟨q2, 0, none⟩ = some (.pointer (some ⟨g, 0, none⟩)) := by rw [ky.cell]; rfl
  have y1 : w.cell? ⟨q2, 1, none⟩ = some (.slice (some ⟨bb, ob, none⟩) ys.length cb) := by rw [ky.cell]; rfl
  have HA := Lib.hid hca; clear hca ha3
  have HB := Lib.hid hcb; clear hcb hb3
  have HX := Lib.hid hx; clear hx
  have HY := Lib.hid hy; clear hy
  clear kx ky vx vy
  have HF := Lib.hid hf; clear hf
  have HP1 := Lib.hid hp1; clear hp1
  have HP2 := Lib.hid hp2; clear hp2
  by_cases hz : xs.getD 0 0 = 0
  · have hx0 := tidy_zero hxt hz
    subst hx0
    rw [Gf.prod_zero_left, tidy_rep _ hyn]
    go_enter Try.func52, Try.ntmps52
    go_wp2
    go_quiet (fail)
    go_wp2_with (first
      | (go_at_call 48; refine (isZero_yes q1 g [0] (w.drewN nq) HP1.out (by simp) rfl).mono ?_; rintro e w1 ⟨rfl, rfl⟩)
      | (go_at_call 46; refine (getZero_any g F (w.drewN nq) (HF.out.up (bdn (brf w) nq))).mono ?_; rintro e w1 ⟨q, rfl, hq, rfl⟩))
    go_ret2
    exact ⟨q, rfl, hq, bdn (brf w) _⟩
  · have hxz := hz
    by_cases hzy : ys.getD 0 0 = 0
    · have hy0 := tidy_zero hyt hzy
      subst hy0
      rw [Gf.prod_zero_right, tidy_rep _ hxn]
      have hxne : xs ≠ [] := hxt.1
      go_enter Try.func52, Try.ntmps52
      go_wp2
      go_quiet (fail)
      go_wp2_with (first
        | (go_at_call_of 48 (Value.pointer (some ⟨q1, 0, none⟩)); refine (isZero_no q1 g xs (w.drewN nq) HP1.out hxne hxz).mono ?_; rintro e w1 ⟨rfl, rfl⟩)
        | (go_at_call_of 48 (Value.pointer (some ⟨q2, 0, none⟩)); refine (isZero_yes q2 g [0] (w.drewN nq) HP2.out (by simp) rfl).mono ?_; rintro e w1 ⟨rfl, rfl⟩)
        | (go_at_call 46; refine (getZero_any g F (w.drewN nq) (HF.out.up (bdn (brf w) nq))).mono ?_; rintro e w1 ⟨q, rfl, hq, rfl⟩))
      go_ret2
      exact ⟨q, rfl, hq, bdn (brf w) _⟩
    · have hxne : xs ≠ [] := hxt.1
      have hyne : ys ≠ [] := hyt.1
      have hmk : ∀ W, (Instr.makeSlice 24 (.int .i64 ((xs.length : Int) + (ys.length : Int) - 1)) (.int .i64 ((xs.length : Int) + (ys.length : Int) - 1))).run Try.prog W =
          .ok (.slice (some ⟨W.heap.size, 0, none⟩) (xs.length + ys.length - 1) (xs.length + ys.length - 1)) (W.alloc (.cells (nv (List.replicate (xs.length + ys.length - 1) 0)).toArray 3)) := fun W => by
        have e : ((xs.length : Int) + (ys.length : Int) - 1) = ((xs.length + ys.length - 1 : Nat) : Int) := by omega
        rw [e, ← nv_rep]
        exact run_mk 24 3 (.int .i64 0) 8 Try.underlying24 info_int rfl _ (by omega) (by omega) W
      obtain ⟨N, hN⟩ : ∃ N, N = xs.length + ys.length - 1 := ⟨_, rfl⟩
      rw [← hN] at hmk
      have hN1 : N ≤ xs.length + ys.length - 1 := by omega
      have hN2 : xs.length + ys.length - 1 ≤ N := by omega
      have HN := Lib.hid hN; clear hN
      clear hxt hyt hz
      go_enter Try.func52, Try.ntmps52
      go_wp2
      go_quiet (fail)
      clear hne
      go_wp2_with (first
        | (go_at_call_of 48 (Value.pointer (some ⟨q1, 0, none⟩)); refine (isZero_no q1 g xs (w.drewN nq) HP1.out hxne hxz).mono ?_; rintro e w1 ⟨rfl, rfl⟩)
        | (go_at_call_of 48 (Value.pointer (some ⟨q2, 0, none⟩)); refine (isZero_no q2 g ys (w.drewN nq) HP2.out hyne hzy).mono ?_; rintro e w1 ⟨rfl, rfl⟩))
      clear hmk x1 y1 hxne hyne hxz hzy y0
      go_loopw [11] (fun iv wr => ∃ (i : Nat) (out : List Nat), i ≤ xs.length ∧ iv = .int .i64 i ∧ out.length ≤ N ∧ N ≤ out.length ∧ Hid (∀ z ∈ out, z < F.s) ∧ Hid (Gf.outer F (xs.drop i) ys i out = Gf.prod F xs ys) ∧
          Hid (Blk wr w.heap.size 3 (nv out).toArray) ∧ Hid (Below w.heap.size w wr)) (fun iv _ => xs.length - (intOf iv).toNat)
      case atStart =>
        refine ⟨0, List.replicate N 0, Nat.zero_le _, rfl, by simp, by simp, fun z hz => ?_, ?_, Blk.fresh (w.drewN nq) _ _, ?_⟩
        · have := List.eq_of_mem_replicate hz; have := Gf.s_pos F; omega
        · show Gf.outer F xs ys 0 _ = _
          rw [HN.out]; rfl
        · exact bal (bdn (brf w) _) _
      case round =>
        obtain ⟨i, out, hi, rfl, ho1, ho2, HO, HP, HBk, HW⟩ := hrel
        obtain ⟨wo, rfl⟩ : ∃ wo : World, wo = wr := ⟨_, rfl⟩
        by_cases hlt : i < xs.length
        · have hP2 := HP.out
          rw [Gf.outer_drop F xs ys i out hlt] at hP2
          have hxi : xs[i] < F.s := HX.out _ (List.getElem_mem hlt)
          have ca1 := HA.out i _ (nv_at xs i hlt)
          generalize xs[i] = x at *
          have cA : wo.cell? ⟨ba, oa + i, none⟩ = some (.int .i64 ((x : Nat) : Int)) := cell_up ca1 HW.out
          have HP2 := Lib.hid hP2; clear hP2 ca1
          go_wp2
          go_loopw [13] (fun kv wr => ∃ (k : Nat) (ot : List Nat), k ≤ ys.length ∧ kv = .int .i64 k ∧ ot.length ≤ N ∧ N ≤ ot.length ∧ Hid (∀ z ∈ ot, z < F.s) ∧
              Hid (Gf.outer F (xs.drop (i + 1)) ys (i + 1) (Gf.inner F x (ys.drop k) (i + k) ot) = Gf.prod F xs ys) ∧
              Hid (Blk wr w.heap.size 3 (nv ot).toArray) ∧ Hid (Below w.heap.size w wr)) (fun kv _ => ys.length - (intOf kv).toNat)
          case atStart => exact ⟨0, out, Nat.zero_le _, rfl, ho1, ho2, HO, HP2, HBk, HW⟩
          case round =>
            clear HO HP HBk HW HP2 ho1 ho2 cA
            obtain ⟨k, ot, hk, rfl, ho1, ho2, HO, HP, HBk, HW⟩ := hrel
            by_cases hlk : k < ys.length
            · have hP2 := HP.out
              rw [Gf.inner_drop F x ys k (i + k) ot hlk] at hP2
              have hyk : ys[k] < F.s := HY.out _ (List.getElem_mem hlk)
              have cb1 := HB.out k _ (nv_at ys k hlk)
              generalize ys[k] = y at *
              have cF : wr.cell? ⟨q1, 0, none⟩ = some (.pointer (some ⟨g, 0, none⟩)) := cell_up x0 HW.out
              have cB : wr.cell? ⟨bb, ob + k, none⟩ = some (.int .i64 ((y : Nat) : Int)) := cell_up cb1 HW.out
              have cO : wr.cell? ⟨w.heap.size, i + k, none⟩ = some (.int .i64 ((ot[i + k]'(by omega) : Nat) : Int)) := by rw [HBk.out.cell]; exact nv_cell ot _ (by omega)
              have fO : wr.frozen? ⟨w.heap.size, i + k, none⟩ = false := HBk.out.frozen _
              have hov : ot[i + k]'(by omega) < F.s := HO.out _ (List.getElem_mem _)
              have hgd : ot.getD (i + k) 0 = ot[i + k]'(by omega) := getD_lt _ _ _ (by omega)
              generalize ot[i + k]'(by omega) = o at *
              have hmul : Gf.mul F x y < F.s := Gf.mul_lt hF y hxi
              have hadd : Gf.addAt ot (i + k) (Gf.mul F x y) = ot.set (i + k) (o ^^^ Gf.mul F x y) := by unfold Gf.addAt; rw [hgd]
              rw [hadd] at hP2
              have hlt2 : ∀ z ∈ ot.set (i + k) (o ^^^ Gf.mul F x y), z < F.s := by rw [← hadd]; exact Gf.addAt_lt HO.out hmul
              have HL2 := Lib.hid hlt2; clear hlt2 hadd hgd
              have HP2 := Lib.hid hP2; clear hP2
              have hT := fun W hW => mulGF_any g F hF h12 x y hxi hyk W hW
              generalize Gf.mul F x y = m at *
              clear cb1
              have HT := Lib.hid hT; clear hT
              obtain ⟨s1, s2, s3, s4⟩ := sum_ix i k N (by omega) (by omega)
              go_wp2
              refine Can.wp_region_can (fun w' => w'.cell? ⟨q1, 0, none⟩ = some (.pointer (some ⟨g, 0, none⟩)) ∧
                  w'.cell? ⟨bb, ob + k, none⟩ = some (.int .i64 ((y : Nat) : Int)) ∧ w'.cell? ⟨w.heap.size, i + k, none⟩ = some (.int .i64 ((o : Nat) : Int)) ∧ w'.frozen? ⟨w.heap.size, i + k, none⟩ = false)
                22 [0, 1, 2, 3, 4, 5, 6, 7, 8, 9, 10, 11, 12, 13, 14, 15, 16, 17, 18, 19, 20, 21, 22] (by kernel_rfl) (by kernel_rfl) (fun _ _ d _ _ h => by cases d <;> exact h) ⟨cF, cB, cO, fO⟩ (fun hHeld => ?_)
              repeat (refine Can.can_pure (v := ?_) rfl rfl (Or.inl ⟨by rfl, ?_⟩) ?_; rotate_left; focus ((intro w hSw); (try dsimp only at hSw); go_simp; (try with_reducible rfl)); (try simp only [Act.put, List.setIfInBounds_toArray, List.set_cons_zero, List.set_cons_succ]))
              refine Can.can_eff rfl rfl (by rfl) (fun K hK => ?_)
              go_simp
              refine (HT.out _ (HF.out.up (HW.out.drew))).mono ?_
              rintro e w1 ⟨rfl, n, rfl⟩
              refine hK.out _ _ hHeld (fun hHeld1 => ?_)
              clear hK K hHeld
              (try simp only [Act.put, List.setIfInBounds_toArray, List.set_cons_zero, List.set_cons_succ])
              refine Can.can_eff rfl rfl (by rfl) (fun K hK => ?_)
              go_simp
              refine (add_any o m (by omega) (by omega) _).mono ?_
              rintro e w1 ⟨rfl, rfl⟩
              refine hK.out _ _ hHeld1 (fun hHeld => ?_)
              clear hK K hHeld1
              (try simp only [Act.put, List.setIfInBounds_toArray, List.set_cons_zero, List.set_cons_succ])
              repeat (refine Can.can_pure (v := ?_) rfl rfl (Or.inl ⟨by rfl, ?_⟩) ?_; rotate_left; focus ((intro w hSw); (try dsimp only at hSw); go_simp; (try with_reducible rfl)); (try simp only [Act.put, List.setIfInBounds_toArray, List.set_cons_zero, List.set_cons_succ]))
              have fO1 := hHeld.2.2.2
              have cO1 := hHeld.2.2.1
              refine Can.can_tail rfl rfl (by rfl) (fun K hK => ?_)
              go_simp
              refine hK.out _ _ ?_
              clear hK K
              clear s1 s2 s3 s4 hHeld cO1 fO1 cF cB cO fO
              have hW1 := Lib.hid ((below_drewN HW.out (1 + n)).setCell (p := ⟨w.heap.size, i + k, none⟩) (Nat.le_refl _) (.int .i64 ((o ^^^ m : Nat) : Int)))
              have hk1 : Hid (Blk ((wr.drewN (1 + n)).setCell ⟨w.heap.size, i + k, none⟩ (.int .i64 ((o ^^^ m : Nat) : Int))) w.heap.size 3 (nv (ot.set (i + k) (o ^^^ m))).toArray) := by
                have := (HBk.out.drewN (1 + n)).put (i + k) (.int .i64 ((o ^^^ m : Nat) : Int))
                rw [nv_set] at this; exact this
              go_wp2
              go_roundw
              case rel => exact ⟨k + 1, _, by omega, by go_num, by rw [List.length_set]; exact ho1, by rw [List.length_set]; exact ho2, HL2, by rw [← Nat.add_assoc]; exact HP2.out, hk1, hW1⟩
              case measure => simp [intOf]; omega
            · obtain rfl : k = ys.length := by omega
              have hP2 := HP.out
              rw [List.drop_length] at hP2
              have HP2 : Hid (Gf.outer F (xs.drop (i + 1)) ys (i + 1) ot = Gf.prod F xs ys) := hP2
              clear hP2
              go_wp2
              go_roundw
              case rel => exact ⟨i + 1, ot, by omega, by go_num, ho1, ho2, HO, HP2, HBk, HW⟩
              case measure => simp [intOf]; omega
        · obtain rfl : i = xs.length := by omega
          have hP2 := HP.out
          rw [List.drop_length] at hP2
          have HP2 : Hid (out = Gf.prod F xs ys) := hP2
          clear hP2
          have cF : wo.cell? ⟨q1, 0, none⟩ = some (.pointer (some ⟨g, 0, none⟩)) := cell_up x0 HW.out
          go_wp2_with fail
          refine (newPoly_any g _ out _ (RdT.of_blk HBk.out (by rw [nv_len]; omega) (by rw [nv_len]; omega) (by unfold maxLen; omega)) (by intro h0; rw [h0] at ho2; simp only [List.length_nil] at ho2; omega)).mono ?_
          rintro e w1 ⟨q, rfl, hq, hb1'⟩
          rw [HP2.out] at hq
          go_wp2
          go_ret2
          exact ⟨q, rfl, hq, bup HW.out hb1'⟩
end Go.Proofs.Ytibdeekgcbmofaa
