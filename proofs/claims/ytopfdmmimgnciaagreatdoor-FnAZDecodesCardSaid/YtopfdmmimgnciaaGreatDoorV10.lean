/-
  WALKS: sums of polynomials, products with a monomial, monomials, degrees, powers, as the package makes them.
-/
import Derived.Test.YtopfdmmimgnciaaGreatDoorV08
import Derived.Test.YtopfdmmimgnciaaGreatDoorV09
import Derived.Test.YtopfdmmimgnciaaGreatDoorV01
import Derived.Laws.CopyOwn
namespace Go.Proofs.YtopfdmmimgnciaaGreatDoor
open Go.RowKit

theorem mk_ints (n : Nat) (W : World) (hn : n ≤ 65536) : (Instr.makeSlice 25 (.int .i64 (n : Int)) (.int .i64 (n : Int))).run Tryz.prog W =
    .ok (.slice (some ⟨W.heap.size, 0, none⟩) n n) (W.alloc (.cells (nv (List.replicate n 0)).toArray 3)) := by
  have h := run_mk (P := Tryz.prog) 25 3 (.int .i64 0) 8 Tryz.underlying25 info_int rfl n (by omega) (by omega) W
  rw [nv_rep] at h
  exact h
theorem size_int : (Tryz.prog.info? 3).map (·.size) = some 1 := by
  have h := info_int
  cases hq : Tryz.prog.info? 3 with
  | none => rw [hq] at h; simp at h
  | some i => rw [hq] at h; simp at h; simp [h]
/-- GetDegree. -/
theorem degree_any (q g : Nat) (l : List Nat) (d : Nat) (w : World) (hp : PolyAt w q g l) (hd : l.length = d + 1) :
    Calls Tryz.prog 117 #[.pointer (some ⟨q, 0, none⟩)] w fun e w' => e = .returned (.int .i64 (d : Int)) ∧ w' = w := by
  obtain ⟨sl, h1, h2⟩ := hp
  obtain ⟨A, ca, rfl, ha1, ha2, ha3⟩ := h2.rd
  simp only [nv_len] at *
  unfold maxLen at ha2
  have c1 : w.cell? ⟨q, 1, none⟩ = some (.slice A l.length ca) := by rw [h1.cell]; rfl
  clear ha3 h1 h2
  have HD := Lib.hid hd
  have hd1 : l.length ≤ d + 1 := by omega
  have hd2 : d + 1 ≤ l.length := by omega
  clear hd
  go_enter Tryz.func117, Tryz.ntmps117
  go_wp2
  go_ret
  exact ⟨ret_int (by omega), rfl⟩

/-- (*GenericGF).Exp. -/
theorem exp_any (g : Nat) (F : Gf.Fd) (h12 : F.m ≤ 12) (i : Nat) (hi : i < F.s) (w : World) (hf : FieldAt w g F) :
    Calls Tryz.prog 99 #[.pointer (some ⟨g, 0, none⟩), .int .i64 i] w fun e w' => e = .returned (.int .i64 ((Gf.ex F i : Nat) : Int)) ∧ w' = w := by
  have hs12 := s_le F h12
  obtain ⟨ge, gl, qz, qo, ce, cl, h⟩ := hf
  have c0 : w.cell? ⟨g, 0, none⟩ = some (.slice (some ⟨ge, 0, none⟩) F.s F.s) := by rw [h.blk.cell]; rfl
  have c1 : w.cell? ⟨ge, i, none⟩ = some (.int .i64 (Gf.ex F i : Nat)) := by rw [h.exps.cell, h.exp i hi]
  clear h
  generalize Gf.ex F i = r at *
  go_enter Tryz.func99, Tryz.ntmps99
  go_wp2
  go_ret
  exact ⟨rfl, rfl⟩

theorem nv_take (xs : List Nat) (k : Nat) : nv (xs.take k) = (nv xs).take k := by simp [nv]
theorem pad_at_lo {n : Nat} {xs : List Nat} {j : Nat} (h : j < n - xs.length) : (Gf.pad n xs).getD j 0 = 0 := by
  unfold Gf.pad
  rw [List.getD, List.getElem?_append_left (by simpa using h), List.getElem?_replicate_of_lt h]; rfl
theorem pad_at_hi {n : Nat} {xs : List Nat} {j : Nat} (h : n - xs.length ≤ j) : (Gf.pad n xs).getD j 0 = xs.getD (j - (n - xs.length)) 0 := by
  unfold Gf.pad
  rw [List.getD, List.getElem?_append_right (by simpa using h), List.length_replicate]; rfl
theorem padd_comm (xs ys : List Nat) : Gf.padd xs ys = Gf.padd ys xs := by
  unfold Gf.padd
  rw [Nat.max_comm, Gf.xo_comm _ _ (by rw [Gf.pad_len _ _ (by omega), Gf.pad_len _ _ (by omega)])]

theorem padd_hi {sm lg : List Nat} {d i : Nat} (hd : lg.length = sm.length + d) (h1 : d ≤ i) (h2 : i < lg.length) : (Gf.padd sm lg).getD i 0 = sm.getD (i - d) 0 ^^^ lg.getD i 0 := by
  have hm : max sm.length lg.length = lg.length := Nat.max_eq_right (by omega)
  have hs : lg.length - sm.length = d := by omega
  unfold Gf.padd
  rw [hm, Gf.pad_same lg _ (Nat.le_refl _), Gf.xo_at _ _ _ (by rw [Gf.pad_len _ _ (by omega)]; exact h2), pad_at_hi (by omega), hs]
theorem padd_lo {sm lg : List Nat} {d : Nat} (hd : lg.length = sm.length + d) : (Gf.padd sm lg).take d = lg.take d := by
  have hm : max sm.length lg.length = lg.length := Nat.max_eq_right (by omega)
  have hs : lg.length - sm.length = d := by omega
  have hl : (lg.take d).length = d := by rw [List.length_take]; omega
  have hp : Gf.pad lg.length sm = List.replicate d 0 ++ sm := by unfold Gf.pad; rw [hs]
  unfold Gf.padd
  rw [hm, Gf.pad_same lg _ (Nat.le_refl _), hp]
  conv => lhs; rw [← List.take_append_drop d lg]
  rw [Gf.xo_append _ _ _ _ (by simp [hl]), Gf.zero_xo _ _ hl]
  have : ∀ t : List Nat, (lg.take d ++ t).take d = lg.take d := fun t => by
    rw [List.take_append_of_le_length (by omega), List.take_take, Nat.min_self]
  exact this _
/-- A difference of two indexes, as a region that draws wants it. -/
theorem sub_ix (i k n : Nat) (h : k ≤ i) (hi : i - k < n) (hn : i ≤ 9223372036854775807) : IntKind.i64.wrap ((i : Int) - (k : Int)) = (i : Int) - (k : Int) ∧ 0 ≤ (i : Int) - (k : Int) ∧ (i : Int) - (k : Int) < (n : Int) ∧ ((i : Int) - (k : Int)).toNat = i - k :=
  ⟨by rw [IntKind.wrap_i64]; omega, by omega, by omega, by omega⟩
theorem splice_fill (P lg : List Nat) (d : Nat) (h : P.take d = lg.take d) (hd : d ≤ lg.length) (_hl : P.length = lg.length) : splice (nv (List.replicate lg.length 0)) 0 (nv (lg.take d)) = nv (fillA P 0 lg.length d) := by
  unfold splice fillA
  rw [h, nv_append, nv_len, List.length_take, Nat.min_eq_left hd]
  simp [nv]

set_option maxRecDepth 100000 in
set_option maxHeartbeats 8000000 in
/-- AddOrSubtract. -/
theorem polyAdd_any (F : Gf.Fd) (h12 : F.m ≤ 12) (g q1 q2 : Nat) (xs ys : List Nat) (w : World) (hp1 : PolyAt w q1 g xs) (hp2 : PolyAt w q2 g ys)
    (hx : ∀ x ∈ xs, x < F.s) (hy : ∀ y ∈ ys, y < F.s) (hxt : Tidy xs) (hyt : Tidy ys) (hx4 : xs.length ≤ 16384) (hy4 : ys.length ≤ 16384) :
    Calls Tryz.prog 122 #[.pointer (some ⟨q1, 0, none⟩), .pointer (some ⟨q2, 0, none⟩)] w (MadePoly w g (tidy (Gf.padd xs ys))) := by
  have hs12 := s_le F h12
  have hxn : 0 < xs.length := by rcases xs with _ | ⟨x, r⟩; exact absurd rfl hxt.1; simp
  have hyn : 0 < ys.length := by rcases ys with _ | ⟨x, r⟩; exact absurd rfl hyt.1; simp
  have hne := fun W => run_neq_self (P := Tryz.prog) (⟨g, 0, none⟩ : Addr) Tryz.underlying124 (by kernel_rfl) W
  obtain ⟨sx, kx, vx⟩ := id hp1
  obtain ⟨sy, ky, vy⟩ := id hp2
  obtain ⟨A, ca, rfl, ha1, ha2, ha3⟩ := vx.rd
  obtain ⟨C, cb, rfl, hb1, hb2, hb3⟩ := vy.rd
  simp only [nv_len] at *
  unfold maxLen at ha2 hb2
  obtain ⟨ba, oa, rfl, hba, hca⟩ := ha3 hxn
  obtain ⟨bb, ob, rfl, hbb, hcb⟩ := hb3 hyn
  have x0 : w.cell? ⟨q1, 0, none⟩ = some (.pointer (some ⟨g, 0, none⟩)) := by rw [kx.cell]; rfl
  have x1 : w.cell? ⟨q1, 1, none⟩ = some (.slice (some ⟨ba, oa, none⟩) xs.length ca) := by rw [kx.cell]; rfl
  have y0 : w.cell? ⟨q2, 0, none⟩ = some (.pointer (some ⟨g, 0, none⟩)) := by rw [ky.cell]; rfl
  have y1 : w.cell? ⟨q2, 1, none⟩ = some (.slice (some ⟨bb, ob, none⟩) ys.length cb) := by rw [ky.cell]; rfl
  have HA := Lib.hid hca; clear hca ha3
  have HB := Lib.hid hcb; clear hcb hb3
  have HX := Lib.hid hx; clear hx
  have HY := Lib.hid hy; clear hy
  clear kx ky vx vy
  have HP1 := Lib.hid hp1; clear hp1
  have HP2 := Lib.hid hp2; clear hp2
  by_cases hz : xs.getD 0 0 = 0
  · have hx0 := tidy_zero hxt hz
    subst hx0
    rw [Gf.zero_padd _ hyn, tidy_of _ hyt]
    clear hz
    go_enter Tryz.func122, Tryz.ntmps122
    go_wp2
    go_quiet (fail)
    go_wp2_with fail
    refine (isZero_yes q1 g [0] (w.drewN nq) HP1.out (by simp) rfl).mono ?_
    rintro e w1 ⟨rfl, rfl⟩
    go_wp2
    go_ret2
    exact ⟨q2, rfl, HP2.out, bdn (brf w) _⟩
  · by_cases hzy : ys.getD 0 0 = 0
    · have hy0 := tidy_zero hyt hzy
      subst hy0
      rw [Gf.padd_zero _ hxn, tidy_of _ hxt]
      have hxne : xs ≠ [] := hxt.1
      clear hzy
      have HZ := Lib.hid hz; clear hz
      go_enter Tryz.func122, Tryz.ntmps122
      go_wp2
      go_quiet (fail)
      go_wp2_with fail
      refine (isZero_no q1 g xs (w.drewN nq) HP1.out hxne HZ.out).mono ?_
      rintro e w1 ⟨rfl, rfl⟩
      go_wp2_with fail
      refine (isZero_yes q2 g [0] (w.drewN nq) HP2.out (by simp) rfl).mono ?_
      rintro e w1 ⟨rfl, rfl⟩
      go_wp2
      go_ret2
      exact ⟨q1, rfl, HP1.out, bdn (brf w) _⟩
    · have hxne : xs ≠ [] := hxt.1
      have hyne : ys ≠ [] := hyt.1
      have HZ := Lib.hid hz; clear hz
      have HZY := Lib.hid hzy; clear hzy
      have HT := Lib.hid (And.intro hxne hyne); clear hxt hyt hxne hyne
      have hmk := fun n W hn => mk_ints n W hn
      rcases Nat.lt_or_ge ys.length xs.length with hlen | hlen
      · rw [padd_comm]
        have hmk1 := fun W => hmk xs.length W (by omega)
        clear hmk
        obtain ⟨d, hd⟩ : ∃ d, xs.length = ys.length + d := ⟨xs.length - ys.length, by omega⟩
        have hd1 : xs.length ≤ ys.length + d := by omega
        have hd2 : ys.length + d ≤ xs.length := by omega
        have hdv : (xs.length : Int) - (ys.length : Int) = (d : Int) := by omega
        have HD := Lib.hid hd; clear hd
        obtain ⟨sm, rfl⟩ : ∃ sm, sm = ys := ⟨_, rfl⟩
        obtain ⟨lg, rfl⟩ : ∃ lg, lg = xs := ⟨_, rfl⟩
        go_enter Tryz.func122, Tryz.ntmps122
        go_wp2
        go_quiet (fail)
        clear hne
        go_wp2_with fail
        refine (isZero_no q1 g lg (w.drewN nq) HP1.out HT.out.1 HZ.out).mono ?_
        rintro e w1 ⟨rfl, rfl⟩
        go_wp2_with fail
        refine (isZero_no q2 g sm (w.drewN nq) HP2.out HT.out.2 HZY.out).mono ?_
        rintro e w1 ⟨rfl, rfl⟩
        -- the longer one: block ba from oa on; the shorter one: block bb from ob on
        have hcs : (nv (lg.take d)).length = d := by rw [nv_len, List.length_take]; omega
        have hsrc : ∀ W, Below w.heap.size w W → ∀ j v, (nv (lg.take d))[j]? = some v → W.cell? ((⟨ba, oa, none⟩ : Addr).add j) = some v := fun W hW j v hv => by
          have hj : j < d := by rw [← hcs]; exact (List.getElem?_eq_some_iff.1 hv).1
          rw [nv_take, List.getElem?_take_of_lt hj] at hv
          have e1 : (⟨ba, oa, none⟩ : Addr).add j = ⟨ba, oa + j, none⟩ := by unfold Addr.add; split <;> simp_all
          rw [e1]
          exact cell_up (HA.out j v hv) hW
        have HSrc := Lib.hid hsrc; clear hsrc
        go_wp2_with (with_reducible refine stop_at (o := ⟨some 54, _, _, _, _, _⟩) ?_)
        refine Lib.hid ?_
        refine wpList_copy_splice (o := ⟨some 54, _, _, _, _, _⟩) rfl _ _ 25 25 rfl 3 Tryz.underlying25 size_int _ _ _ _ _ _ rfl rfl w.heap.size 0 (nv (List.replicate lg.length 0)) 3 (Blk.fresh (w.drewN nq) _ _) (nv (lg.take d)) ?_ (fun _ => ⟨rfl, _, rfl, HSrc.out _ (bal (bdn (brf w) _) _)⟩) ?_ (nv_one _) w.heap.size w (bal (bdn (brf w) _) _) (Nat.le_refl _) ?_
        · rw [hcs]; exact (Nat.min_eq_left (by omega)).symm
        · rw [hcs, nv_len, List.length_replicate]; omega
        intro w2 HG2 hB2
        have HPl : Hid ((Gf.padd sm lg).length = lg.length) := Lib.hid (by rw [Gf.padd_len]; omega)
        have HK2 : Hid (Blk w2 w.heap.size 3 (nv (fillA (Gf.padd sm lg) 0 lg.length d)).toArray) := Lib.hid (by
          rw [← splice_fill (Gf.padd sm lg) lg d (padd_lo HD.out) (by omega) HPl.out]; exact HG2.out)
        have HW2 := Lib.hid hB2; clear hB2 HG2 hcs
        go_wp2
        go_loopw [10] (fun iv wr => ∃ (i : Nat), d ≤ i ∧ i ≤ lg.length ∧ iv = .int .i64 i ∧ Hid (Blk wr w.heap.size 3 (nv (fillA (Gf.padd sm lg) 0 lg.length i)).toArray) ∧ Hid (Below w.heap.size w wr)) (fun iv _ => lg.length - (intOf iv).toNat)
        case atStart => exact ⟨d, Nat.le_refl _, by omega, rfl, HK2, HW2⟩
        case round =>
          clear HK2 HW2
          obtain ⟨i, hdi, hi, rfl, HBk, HW⟩ := hrel
          by_cases hlt : i < lg.length
          · have hid : i - d < sm.length := by omega
            have hPi : i < (Gf.padd sm lg).length := by rw [HPl.out]; exact hlt
            have hfl := fill_len (Gf.padd sm lg) 0 lg.length i (by omega) (by rw [HPl.out]; exact Nat.le_refl _)
            have hset := fill_set (Gf.padd sm lg) 0 lg.length i hPi (by rw [HPl.out]; exact Nat.le_refl _)
            have hv := padd_hi HD.out hdi hlt
            rw [getD_lt _ _ _ hPi, getD_lt _ _ _ hid, getD_lt _ _ _ hlt] at hv
            rw [hv] at hset
            have cs1 := HB.out (i - d) _ (nv_at sm (i - d) hid)
            have cl1 := HA.out i _ (nv_at lg i hlt)
            have hxs := HY.out _ (List.getElem_mem hid)
            have hxl := HX.out _ (List.getElem_mem hlt)
            have cO : wr.cell? ⟨w.heap.size, i, none⟩ = some (.int .i64 (((fillA (Gf.padd sm lg) 0 lg.length i)[i]'(by omega) : Nat) : Int)) := by rw [HBk.out.cell]; exact nv_cell _ _ (by omega)
            have fO : wr.frozen? ⟨w.heap.size, i, none⟩ = false := HBk.out.frozen _
            generalize (fillA (Gf.padd sm lg) 0 lg.length i)[i]'(by omega) = o at *
            generalize sm[i - d] = a at *
            generalize lg[i] = b at *
            have cS : wr.cell? ⟨bb, ob + (i - d), none⟩ = some (.int .i64 ((a : Nat) : Int)) := cell_up cs1 HW.out
            have cL : wr.cell? ⟨ba, oa + i, none⟩ = some (.int .i64 ((b : Nat) : Int)) := cell_up cl1 HW.out
            have HSet := Lib.hid hset; clear hset hv cs1 cl1 hfl hPi
            obtain ⟨s1, s2, s3, s4⟩ := sub_ix i d sm.length hdi hid (by omega)
            have HNx : Hid (Blk (wr.drew.setCell ⟨w.heap.size, i, none⟩ (.int .i64 ((a ^^^ b : Nat) : Int))) w.heap.size 3 (nv (fillA (Gf.padd sm lg) 0 lg.length (i + 1))).toArray) := Lib.hid (by
              have := HBk.out.drew.put i (.int .i64 ((a ^^^ b : Nat) : Int))
              rw [nv_set, HSet.out] at this; exact this)
            have HWx := Lib.hid (HW.out.drew.setCell (p := ⟨w.heap.size, i, none⟩) (Nat.le_refl _) (.int .i64 ((a ^^^ b : Nat) : Int)))
            clear HBk HW
            go_wp2
            refine Can.wp_region_can (fun w' => w'.cell? ⟨bb, ob + (i - d), none⟩ = some (.int .i64 ((a : Nat) : Int)) ∧ w'.cell? ⟨ba, oa + i, none⟩ = some (.int .i64 ((b : Nat) : Int)) ∧ w'.cell? ⟨w.heap.size, i, none⟩ = some (.int .i64 ((o : Nat) : Int)) ∧ w'.frozen? ⟨w.heap.size, i, none⟩ = false) 14 [0, 1, 2, 3, 4, 5, 6, 7, 8, 9, 10, 11, 12, 13, 14] (by kernel_rfl) (by kernel_rfl) (fun _ _ d _ _ h => by cases d <;> exact h) ⟨cS, cL, cO, fO⟩ (fun hHeld => ?_)
            repeat (refine Can.can_pure (v := ?_) rfl rfl (Or.inl ⟨by rfl, ?_⟩) ?_; rotate_left; (focus ((intro w hSw); (try dsimp only at hSw); go_simp; (try with_reducible rfl))); (try simp only [Act.put, List.getElem_toArray, List.getElem_cons_succ, List.getElem_cons_zero, List.setIfInBounds_toArray, List.set_cons_zero, List.set_cons_succ]))
            refine Can.can_eff rfl rfl (by rfl) (fun K hK => ?_)
            go_simp
            refine (add_any a b (by omega) (by omega) _).mono ?_
            rintro e w1 ⟨rfl, rfl⟩
            refine hK.out _ _ hHeld (fun hHeld1 => ?_)
            clear hK K
            (try simp only [Act.put, List.getElem_toArray, List.getElem_cons_succ, List.getElem_cons_zero, List.setIfInBounds_toArray, List.set_cons_zero, List.set_cons_succ])
            repeat (refine Can.can_pure (v := ?_) rfl rfl (Or.inl ⟨by rfl, ?_⟩) ?_; rotate_left; (focus ((intro w hSw); (try dsimp only at hSw); go_simp; (try with_reducible rfl))); (try simp only [Act.put, List.getElem_toArray, List.getElem_cons_succ, List.getElem_cons_zero, List.setIfInBounds_toArray, List.set_cons_zero, List.set_cons_succ]))
            have fO1 := hHeld1.2.2.2
            have cO1 := hHeld1.2.2.1
            refine Can.can_tail rfl rfl (by rfl) (fun K hK => ?_)
            go_simp
            refine hK.out _ _ ?_
            clear hK K
            clear s1 s2 s3 s4 hHeld hHeld1 cO1 fO1 cS cL cO fO
            go_wp2
            go_roundw
            case rel => exact ⟨i + 1, by omega, by omega, by go_num, HNx, HWx⟩
            case measure => simp [intOf]; omega
          · obtain rfl : i = lg.length := by omega
            have HBk2 : Hid (Blk wr w.heap.size 3 (nv (Gf.padd sm lg)).toArray) := Lib.hid (by
              have := HBk.out
              have e := fill_full (Gf.padd sm lg) 0
              rw [HPl.out] at e
              rw [e] at this; exact this)
            have cF : wr.cell? ⟨q1, 0, none⟩ = some (.pointer (some ⟨g, 0, none⟩)) := cell_up x0 HW.out
            clear HBk
            go_wp2_with fail
            refine (newPoly_any g _ (Gf.padd sm lg) _ (RdT.of_blk HBk2.out (by rw [nv_len, HPl.out]) (by rw [nv_len, HPl.out]; omega) (by unfold maxLen; omega)) (by intro h0; have := HPl.out; rw [h0] at this; simp at this; omega)).mono ?_
            rintro e w3 ⟨q, rfl, hq, hb3⟩
            go_wp2
            go_ret2
            exact ⟨q, rfl, hq, bup HW.out hb3⟩
      · have hmk1 := fun W => hmk ys.length W (by omega)
        clear hmk
        obtain ⟨d, hd⟩ : ∃ d, ys.length = xs.length + d := ⟨ys.length - xs.length, by omega⟩
        have hd1 : ys.length ≤ xs.length + d := by omega
        have hd2 : xs.length + d ≤ ys.length := by omega
        have hdv : (ys.length : Int) - (xs.length : Int) = (d : Int) := by omega
        have HD := Lib.hid hd; clear hd
        have hlen2 : ¬ ys.length < xs.length := by omega
        obtain ⟨sm, rfl⟩ : ∃ sm, sm = xs := ⟨_, rfl⟩
        obtain ⟨lg, rfl⟩ : ∃ lg, lg = ys := ⟨_, rfl⟩
        go_enter Tryz.func122, Tryz.ntmps122
        go_wp2
        go_quiet (fail)
        clear hne
        go_wp2_with fail
        refine (isZero_no q1 g sm (w.drewN nq) HP1.out HT.out.1 HZ.out).mono ?_
        rintro e w1 ⟨rfl, rfl⟩
        go_wp2_with fail
        refine (isZero_no q2 g lg (w.drewN nq) HP2.out HT.out.2 HZY.out).mono ?_
        rintro e w1 ⟨rfl, rfl⟩
        -- the longer one: block bb from ob on; the shorter one: block ba from oa on
        have hcs : (nv (lg.take d)).length = d := by rw [nv_len, List.length_take]; omega
        have hsrc : ∀ W, Below w.heap.size w W → ∀ j v, (nv (lg.take d))[j]? = some v → W.cell? ((⟨bb, ob, none⟩ : Addr).add j) = some v := fun W hW j v hv => by
          have hj : j < d := by rw [← hcs]; exact (List.getElem?_eq_some_iff.1 hv).1
          rw [nv_take, List.getElem?_take_of_lt hj] at hv
          have e1 : (⟨bb, ob, none⟩ : Addr).add j = ⟨bb, ob + j, none⟩ := by unfold Addr.add; split <;> simp_all
          rw [e1]
          exact cell_up (HB.out j v hv) hW
        have HSrc := Lib.hid hsrc; clear hsrc
        go_wp2_with (with_reducible refine stop_at (o := ⟨some 54, _, _, _, _, _⟩) ?_)
        refine Lib.hid ?_
        refine wpList_copy_splice (o := ⟨some 54, _, _, _, _, _⟩) rfl _ _ 25 25 rfl 3 Tryz.underlying25 size_int _ _ _ _ _ _ rfl rfl w.heap.size 0 (nv (List.replicate lg.length 0)) 3 (Blk.fresh (w.drewN nq) _ _) (nv (lg.take d)) ?_ (fun _ => ⟨rfl, _, rfl, HSrc.out _ (bal (bdn (brf w) _) _)⟩) ?_ (nv_one _) w.heap.size w (bal (bdn (brf w) _) _) (Nat.le_refl _) ?_
        · rw [hcs]; exact (Nat.min_eq_left (by omega)).symm
        · rw [hcs, nv_len, List.length_replicate]; omega
        intro w2 HG2 hB2
        have HPl : Hid ((Gf.padd sm lg).length = lg.length) := Lib.hid (by rw [Gf.padd_len]; omega)
        have HK2 : Hid (Blk w2 w.heap.size 3 (nv (fillA (Gf.padd sm lg) 0 lg.length d)).toArray) := Lib.hid (by
          rw [← splice_fill (Gf.padd sm lg) lg d (padd_lo HD.out) (by omega) HPl.out]; exact HG2.out)
        have HW2 := Lib.hid hB2; clear hB2 HG2 hcs
        go_wp2
        go_loopw [10] (fun iv wr => ∃ (i : Nat), d ≤ i ∧ i ≤ lg.length ∧ iv = .int .i64 i ∧ Hid (Blk wr w.heap.size 3 (nv (fillA (Gf.padd sm lg) 0 lg.length i)).toArray) ∧ Hid (Below w.heap.size w wr)) (fun iv _ => lg.length - (intOf iv).toNat)
        case atStart => exact ⟨d, Nat.le_refl _, by omega, rfl, HK2, HW2⟩
        case round =>
          clear HK2 HW2
          obtain ⟨i, hdi, hi, rfl, HBk, HW⟩ := hrel
          by_cases hlt : i < lg.length
          · have hid : i - d < sm.length := by omega
            have hPi : i < (Gf.padd sm lg).length := by rw [HPl.out]; exact hlt
            have hfl := fill_len (Gf.padd sm lg) 0 lg.length i (by omega) (by rw [HPl.out]; exact Nat.le_refl _)
            have hset := fill_set (Gf.padd sm lg) 0 lg.length i hPi (by rw [HPl.out]; exact Nat.le_refl _)
            have hv := padd_hi HD.out hdi hlt
            rw [getD_lt _ _ _ hPi, getD_lt _ _ _ hid, getD_lt _ _ _ hlt] at hv
            rw [hv] at hset
            have cs1 := HA.out (i - d) _ (nv_at sm (i - d) hid)
            have cl1 := HB.out i _ (nv_at lg i hlt)
            have hxs := HX.out _ (List.getElem_mem hid)
            have hxl := HY.out _ (List.getElem_mem hlt)
            have cO : wr.cell? ⟨w.heap.size, i, none⟩ = some (.int .i64 (((fillA (Gf.padd sm lg) 0 lg.length i)[i]'(by omega) : Nat) : Int)) := by rw [HBk.out.cell]; exact nv_cell _ _ (by omega)
            have fO : wr.frozen? ⟨w.heap.size, i, none⟩ = false := HBk.out.frozen _
            generalize (fillA (Gf.padd sm lg) 0 lg.length i)[i]'(by omega) = o at *
            generalize sm[i - d] = a at *
            generalize lg[i] = b at *
            have cS : wr.cell? ⟨ba, oa + (i - d), none⟩ = some (.int .i64 ((a : Nat) : Int)) := cell_up cs1 HW.out
            have cL : wr.cell? ⟨bb, ob + i, none⟩ = some (.int .i64 ((b : Nat) : Int)) := cell_up cl1 HW.out
            have HSet := Lib.hid hset; clear hset hv cs1 cl1 hfl hPi
            obtain ⟨s1, s2, s3, s4⟩ := sub_ix i d sm.length hdi hid (by omega)
            have HNx : Hid (Blk (wr.drew.setCell ⟨w.heap.size, i, none⟩ (.int .i64 ((a ^^^ b : Nat) : Int))) w.heap.size 3 (nv (fillA (Gf.padd sm lg) 0 lg.length (i + 1))).toArray) := Lib.hid (by
              have := HBk.out.drew.put i (.int .i64 ((a ^^^ b : Nat) : Int))
              rw [nv_set, HSet.out] at this; exact this)
            have HWx := Lib.hid (HW.out.drew.setCell (p := ⟨w.heap.size, i, none⟩) (Nat.le_refl _) (.int .i64 ((a ^^^ b : Nat) : Int)))
            clear HBk HW
            go_wp2
            refine Can.wp_region_can (fun w' => w'.cell? ⟨ba, oa + (i - d), none⟩ = some (.int .i64 ((a : Nat) : Int)) ∧ w'.cell? ⟨bb, ob + i, none⟩ = some (.int .i64 ((b : Nat) : Int)) ∧ w'.cell? ⟨w.heap.size, i, none⟩ = some (.int .i64 ((o : Nat) : Int)) ∧ w'.frozen? ⟨w.heap.size, i, none⟩ = false) 14 [0, 1, 2, 3, 4, 5, 6, 7, 8, 9, 10, 11, 12, 13, 14] (by kernel_rfl) (by kernel_rfl) (fun _ _ d _ _ h => by cases d <;> exact h) ⟨cS, cL, cO, fO⟩ (fun hHeld => ?_)
            repeat (refine Can.can_pure (v := ?_) rfl rfl (Or.inl ⟨by rfl, ?_⟩) ?_; rotate_left; (focus ((intro w hSw); (try dsimp only at hSw); go_simp; (try with_reducible rfl))); (try simp only [Act.put, List.getElem_toArray, List.getElem_cons_succ, List.getElem_cons_zero, List.setIfInBounds_toArray, List.set_cons_zero, List.set_cons_succ]))
            refine Can.can_eff rfl rfl (by rfl) (fun K hK => ?_)
            go_simp
            refine (add_any a b (by omega) (by omega) _).mono ?_
            rintro e w1 ⟨rfl, rfl⟩
            refine hK.out _ _ hHeld (fun hHeld1 => ?_)
            clear hK K
            (try simp only [Act.put, List.getElem_toArray, List.getElem_cons_succ, List.getElem_cons_zero, List.setIfInBounds_toArray, List.set_cons_zero, List.set_cons_succ])
            repeat (refine Can.can_pure (v := ?_) rfl rfl (Or.inl ⟨by rfl, ?_⟩) ?_; rotate_left; (focus ((intro w hSw); (try dsimp only at hSw); go_simp; (try with_reducible rfl))); (try simp only [Act.put, List.getElem_toArray, List.getElem_cons_succ, List.getElem_cons_zero, List.setIfInBounds_toArray, List.set_cons_zero, List.set_cons_succ]))
            have fO1 := hHeld1.2.2.2
            have cO1 := hHeld1.2.2.1
            refine Can.can_tail rfl rfl (by rfl) (fun K hK => ?_)
            go_simp
            refine hK.out _ _ ?_
            clear hK K
            clear s1 s2 s3 s4 hHeld hHeld1 cO1 fO1 cS cL cO fO
            go_wp2
            go_roundw
            case rel => exact ⟨i + 1, by omega, by omega, by go_num, HNx, HWx⟩
            case measure => simp [intOf]; omega
          · obtain rfl : i = lg.length := by omega
            have HBk2 : Hid (Blk wr w.heap.size 3 (nv (Gf.padd sm lg)).toArray) := Lib.hid (by
              have := HBk.out
              have e := fill_full (Gf.padd sm lg) 0
              rw [HPl.out] at e
              rw [e] at this; exact this)
            have cF : wr.cell? ⟨q1, 0, none⟩ = some (.pointer (some ⟨g, 0, none⟩)) := cell_up x0 HW.out
            clear HBk
            go_wp2_with fail
            refine (newPoly_any g _ (Gf.padd sm lg) _ (RdT.of_blk HBk2.out (by rw [nv_len, HPl.out]) (by rw [nv_len, HPl.out]; omega) (by unfold maxLen; omega)) (by intro h0; have := HPl.out; rw [h0] at this; simp at this; omega)).mono ?_
            rintro e w3 ⟨q, rfl, hq, hb3⟩
            go_wp2
            go_ret2
            exact ⟨q, rfl, hq, bup HW.out hb3⟩
end Go.Proofs.YtopfdmmimgnciaaGreatDoor
