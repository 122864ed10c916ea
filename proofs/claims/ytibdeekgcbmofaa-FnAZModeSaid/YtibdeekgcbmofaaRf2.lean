/-
  WALKS: the reference's rest of a division, powers of 2, generator, and code.
-/
import Derived.Test.YtibdeekgcbmofaaRf1
import Derived.Deep.LoopGhost
namespace Go.Proofs.Ytibdeekgcbmofaa
open Go.RowKit

theorem outer_single (F : Gf.Fd) (c : Nat) : ∀ (xs pre : List Nat), Gf.outer F xs [c] pre.length (pre ++ List.replicate xs.length 0) = pre ++ Gf.scaled F xs c
  | [], pre => rfl
  | x :: xs, pre => by
    have e1 : Gf.addAt (pre ++ List.replicate (x :: xs).length 0) pre.length (Gf.mul F x c) = (pre ++ [Gf.mul F x c]) ++ List.replicate xs.length 0 := by
      rw [List.length_cons, List.replicate_succ, Gf.addAt_mid, Nat.zero_xor]; simp
    have ih := outer_single F c xs (pre ++ [Gf.mul F x c])
    rw [List.length_append] at ih
    show Gf.outer F xs [c] (pre.length + 1) (Gf.addAt (pre ++ List.replicate (x :: xs).length 0) pre.length (Gf.mul F x c)) = _
    rw [e1]
    refine ih.trans ?_
    show (pre ++ [Gf.mul F x c]) ++ Gf.scaled F xs c = pre ++ (Gf.mul F x c :: Gf.scaled F xs c)
    simp
theorem prod_single (F : Gf.Fd) (c : Nat) (xs : List Nat) : Gf.prod F xs [c] = Gf.scaled F xs c := by
  have := outer_single F c xs []
  unfold Gf.prod
  have e : xs.length + [c].length - 1 = xs.length := rfl
  rw [e]
  simpa using this
theorem rsZero_yes (v : Value) (xs : List Nat) (w : World) (hv : Rd w w.heap.size v (nv xs)) (hn : 0 < xs.length) (h : xs = [0]) :
    Calls Try.prog 19 #[v] w fun e w' => e = .returned (.bool true) ∧ w' = w :=
  (rsZero_any v xs w hv hn).mono fun e w' ⟨he, hw⟩ => ⟨by rw [he, decide_eq_true h], hw⟩
theorem rsZero_no (v : Value) (xs : List Nat) (w : World) (hv : Rd w w.heap.size v (nv xs)) (hn : 0 < xs.length) (h : ¬ xs = [0]) :
    Calls Try.prog 19 #[v] w fun e w' => e = .returned (.bool false) ∧ w' = w :=
  (rsZero_any v xs w hv hn).mono fun e w' ⟨he, hw⟩ => ⟨by rw [he, decide_eq_false h], hw⟩

set_option maxRecDepth 100000 in
set_option maxHeartbeats 4000000 in
/-- spec.RSRest. -/
theorem rsRest_any (F : Gf.Fd) (hF : Gf.Ok F) (h12 : F.m ≤ 12) (a b : Value) (xs ys : List Nat) (fuel : Nat) (w : World) (ha : Rd w w.heap.size a (nv xs)) (hb : Rd w w.heap.size b (nv ys))
    (hx : ∀ x ∈ xs, x < F.s) (hy : ∀ y ∈ ys, y < F.s) (hxt : Tidy xs) (hyt : Tidy ys) (hy0 : ys.getD 0 0 ≠ 0) (hx4 : xs.length ≤ 8192) (hy4 : ys.length ≤ 8192) (hfu : xs.length ≤ fuel) :
    Calls Try.prog 13 #[.agg #[.int .i64 F.p, .int .i64 F.s, .int .i64 F.b], a, b] w fun e w' => ∃ v, e = .returned v ∧ RdT w' 3 v (nv (Gf.rest F ys fuel xs)) ∧ Below w.heap.size w w' := by
  have hs12 := s_le F h12
  have hyn : 0 < ys.length := by rcases ys with _ | ⟨x, r⟩; exact absurd rfl hyt.1; simp
  have hl0 : ys.getD 0 0 < F.s := by rw [getD_lt _ _ _ hyn]; exact hy _ (List.getElem_mem hyn)
  have hlp : 0 < ys.getD 0 0 := by omega
  have HY0 := Lib.hid hy0; clear hy0
  obtain ⟨y0v, hy0v⟩ : ∃ y0v, y0v = ys.getD 0 0 := ⟨_, rfl⟩
  rw [← hy0v] at hl0 hlp
  have HYV := Lib.hid hy0v; clear hy0v
  have HX := Lib.hid hx; clear hx
  have HY := Lib.hid hy; clear hy
  have HT := Lib.hid (And.intro hxt hyt); clear hxt hyt
  have HA := Lib.hid ha; clear ha
  have HB := Lib.hid hb; clear hb
  generalize hR : Gf.rest F ys fuel xs = R
  have HR2 : Hid (Gf.rest F ys fuel xs = R) := Lib.hid hR
  clear hR
  go_enter Try.func13, Try.ntmps13
  go_wp2_with fail
  refine (tidy_any a xs _ (HA.out.up (bal (brf w) _)) HT.out.1.1 (by omega)).mono ?_
  rintro e w1 ⟨v1, rfl, hv1, hb1⟩
  rw [tidy_of xs HT.out.1] at hv1
  have HB1 := Lib.hid (bup (bal (brf w) _) hb1)
  have HF1 := Lib.hid ((Blk.fresh w 27 #[.int .i64 F.p, .int .i64 F.s, .int .i64 F.b]).up hb1); clear hb1
  go_wp2_with fail
  refine (tidy_any b ys _ (HB.out.up HB1.out) HT.out.2.1 (by omega)).mono ?_
  rintro e w2 ⟨v2, rfl, hv2, hb2⟩
  rw [tidy_of ys HT.out.2] at hv2
  have HV1 := Lib.hid (hv1.up hb2); clear hv1
  have HB2 := Lib.hid (bup HB1.out hb2)
  have HF2 := Lib.hid (HF1.out.up hb2); clear hb2 HF1 HB1
  have hv2' := hv2
  obtain ⟨A2, c2, rfl, k1, k2, k3⟩ := hv2.rd
  simp only [nv_len] at *
  unfold maxLen at k2
  obtain ⟨bb, ob, rfl, hbb, hcb⟩ := k3 hyn
  have c0 := hcb 0 _ (nv_at ys 0 hyn)
  have e0 : ys[0] = y0v := by rw [HYV.out, getD_lt _ _ _ hyn]
  rw [Nat.add_zero, e0] at c0
  have HV2 := Lib.hid hv2'; clear hv2 hv2' k3 e0 hcb
  obtain ⟨x0, x1, x2⟩ := HF2.out.three
  go_wp2_with fail
  refine Can.wp_region_can (fun w' => w'.cell? ⟨w.heap.size, 0, none⟩ = some (.int .i64 F.p) ∧ w'.cell? ⟨w.heap.size, 1, none⟩ = some (.int .i64 F.s) ∧ w'.cell? ⟨w.heap.size, 2, none⟩ = some (.int .i64 F.b) ∧ w'.cell? ⟨bb, ob, none⟩ = some (.int .i64 ((y0v : Nat) : Int)) ∧ Below w2.heap.size w2 w') 999 [0, 1, 2, 3, 4, 5] (by kernel_rfl) (by kernel_rfl) (fun _ _ d _ _ h => by cases d <;> exact h) ⟨x0, x1, x2, c0, bdr (brf _)⟩ (fun hHeld => ?_)
  repeat (refine Can.can_pure (v := ?_) rfl rfl (Or.inl ⟨by rfl, ?_⟩) ?_; rotate_left; (focus ((intro w hSw); (try dsimp only at hSw); go_simp; (try with_reducible rfl))); (try simp only [Act.put, List.getElem_toArray, List.getElem_cons_succ, List.getElem_cons_zero, List.setIfInBounds_toArray, List.set_cons_zero, List.set_cons_succ]))
  refine Can.can_eff rfl rfl (by rfl) (fun K hK => ?_)
  go_simp
  refine (rsInverse_any F hF h12 y0v _ hlp hl0).mono ?_
  rintro e w3 ⟨rfl, hb3⟩
  refine hK.out _ _ ⟨cell_up hHeld.1 hb3, cell_up hHeld.2.1 hb3, cell_up hHeld.2.2.1 hb3, cell_up hHeld.2.2.2.1 hb3, bup hHeld.2.2.2.2 hb3⟩ (fun hHeld1 => ?_)
  clear hK K
  (try simp only [Act.put, List.getElem_toArray, List.getElem_cons_succ, List.getElem_cons_zero, List.setIfInBounds_toArray, List.set_cons_zero, List.set_cons_succ])
  repeat (refine Can.can_pure (v := ?_) rfl rfl (Or.inl ⟨by rfl, ?_⟩) ?_; rotate_left; (focus ((intro w hSw); (try dsimp only at hSw); go_simp; (try with_reducible rfl))); (try simp only [Act.put, List.getElem_toArray, List.getElem_cons_succ, List.getElem_cons_zero, List.setIfInBounds_toArray, List.set_cons_zero, List.set_cons_succ]))
  refine Can.can_done ?_
  have hinv : Gf.inv F y0v < F.s := Gf.inv_lt hF _
  obtain ⟨iv, hiv⟩ : ∃ iv, iv = Gf.inv F y0v := ⟨_, rfl⟩
  rw [← hiv] at hinv ⊢
  have HIV := Lib.hid hiv; clear hiv
  have HV1' := Lib.hid (HV1.out.up hHeld1.2.2.2.2); clear HV1
  have HV2' := Lib.hid (HV2.out.up hHeld1.2.2.2.2); clear HV2
  have HF3 := Lib.hid (HF2.out.up hHeld1.2.2.2.2); clear HF2
  have HB3 := Lib.hid (bup HB2.out hHeld1.2.2.2.2); clear HB2 hHeld hHeld1 hb3 x0 x1 x2 c0
  go_wp2_with fail
  go_loopg [7] fuel (fun k v7 wr => ∃ (r : List Nat), Hid (RdT wr 3 v7 (nv r)) ∧ r.length ≤ 8192 ∧ Hid (Tidy r) ∧ Hid (∀ x ∈ r, x < F.s) ∧ Hid (Gf.mes r ≤ k) ∧ Hid (Gf.rest F ys k r = R) ∧
    Hid (Blk wr w.heap.size 27 #[.int .i64 F.p, .int .i64 F.s, .int .i64 F.b]) ∧ Hid (Below w3.heap.size w3 wr))
  case atStart => exact ⟨xs, HV1', hx4, Lib.hid HT.out.1, HX, Lib.hid (Nat.le_trans (Gf.mes_le xs) hfu), HR2, HF3, Lib.hid (brf _)⟩
  case round =>
    obtain ⟨r, HVR, hr8, HTR, HLR, HM, HRE, HFR, HW⟩ := hrel
    have hrn : 0 < r.length := by
      have := HTR.out.1
      rcases r with _ | ⟨x, t⟩
      · exact absurd rfl this
      · simp
    obtain ⟨Ar, cr, rfl, j1, j2, j3⟩ := HVR.out.rd
    simp only [nv_len] at *
    unfold maxLen at j2
    obtain ⟨br, or_, rfl, hbr, hcr⟩ := j3 hrn
    have cr0 := hcr 0 _ (nv_at r 0 hrn)
    rw [Nat.add_zero] at cr0
    clear j3 hcr
    by_cases hle : ys.length ≤ r.length
    · by_cases hz : r = [0]
      · have HE : Hid (r = R) := Lib.hid (by rw [← HRE.out, hz, Gf.rest_zero])
        have HZ := Lib.hid hz; clear hz
        go_wp2_with fail
        refine (rsZero_yes _ r _ HVR.out.rd hrn HZ.out).mono ?_
        rintro e wr ⟨rfl, rfl⟩
        go_wp2
        go_ret
        exact ⟨_, rfl, by rw [← HE.out]; exact HVR.out, bup HB3.out HW.out⟩
      · have hmes := Gf.restStep_mes hF HY.out HLR.out hyn HY0.out HTR.out hle hz
        have hmr : Gf.mes r = r.length := by unfold Gf.mes; rw [if_neg hz]
        obtain ⟨n, hn⟩ : ∃ n, gk = n + 1 := ⟨gk - 1, by have := HM.out; omega⟩
        have HNx : Hid (Gf.rest F ys n (Gf.restStep F ys r) = R) := Lib.hid (by rw [← Gf.rest_step F ys n r hle hz, ← hn]; exact HRE.out)
        have HMx : Hid (Gf.mes (Gf.restStep F ys r) ≤ n) := Lib.hid (by have := HM.out; omega)
        have hgn : n < gk := by omega
        have HTx : Hid (Tidy (Gf.restStep F ys r)) := Lib.hid (Gf.restStep_tidy HTR.out.1)
        have HLx : Hid (∀ x ∈ Gf.restStep F ys r, x < F.s) := Lib.hid (Gf.restStep_lt hF HY.out HLR.out)
        have hrx8 : (Gf.restStep F ys r).length ≤ 8192 := by omega
        have hcl := Gf.lead_lt hF ys HLR.out hrn
        have hcp := Gf.lead_pos (b := ys) hF HTR.out HLR.out hz
        have hr0l : r.getD 0 0 < F.s := by rw [getD_lt _ _ _ hrn]; exact HLR.out _ (List.getElem_mem hrn)
        obtain ⟨k, hk⟩ : ∃ k : Nat, (r.length : Int) - (ys.length : Int) = (k : Int) := ⟨r.length - ys.length, by omega⟩
        have hkn : r.length - ys.length = k := by omega
        have hk8 : k ≤ 8192 := by omega
        have hstep : Gf.restStep F ys r = tidy (Gf.padd r (tidy (Gf.scaled F ys (Gf.lead F ys r) ++ List.replicate k 0))) := by unfold Gf.restStep Gf.term; rw [hkn]
        have hld : Gf.lead F ys r = Gf.mul F (r.getD 0 0) iv := by rw [HIV.out, HYV.out]; rfl
        have er0 : r[0] = r.getD 0 0 := (getD_lt _ _ _ hrn).symm
        rw [er0] at cr0
        obtain ⟨r0, hr0e⟩ : ∃ r0, r0 = r.getD 0 0 := ⟨_, rfl⟩
        rw [← hr0e] at hld hr0l cr0
        obtain ⟨c, hc⟩ : ∃ c, c = Gf.lead F ys r := ⟨_, rfl⟩
        rw [← hc] at hcl hcp hstep hld
        have HST := Lib.hid (And.intro hstep hld); clear hstep hld hc hr0e hmes hmr hn hkn er0
        have HZ := Lib.hid hz; clear hz
        clear HM HRE
        obtain ⟨x0, x1, x2⟩ := HFR.out.three
        have HV2r := Lib.hid (HV2'.out.up HW.out)
        go_wp2_with fail
        refine (rsZero_no _ r _ HVR.out.rd hrn HZ.out).mono ?_
        rintro e wr ⟨rfl, rfl⟩
        go_wp2_with fail
        refine Can.wp_region_can (fun w' => w'.cell? ⟨w.heap.size, 0, none⟩ = some (.int .i64 F.p) ∧ w'.cell? ⟨w.heap.size, 1, none⟩ = some (.int .i64 F.s) ∧ w'.cell? ⟨w.heap.size, 2, none⟩ = some (.int .i64 F.b) ∧ w'.cell? ⟨br, or_, none⟩ = some (.int .i64 ((r0 : Nat) : Int)) ∧ Below wr.heap.size wr w') 999 [0, 1, 2, 3, 4, 5, 6] (by kernel_rfl) (by kernel_rfl) (fun _ _ d _ _ h => by cases d <;> exact h) ⟨x0, x1, x2, cr0, bdr (brf _)⟩ (fun hHeld => ?_)
        repeat (refine Can.can_pure (v := ?_) rfl rfl (Or.inl ⟨by rfl, ?_⟩) ?_; rotate_left; (focus ((intro w hSw); (try dsimp only at hSw); go_simp; (try with_reducible rfl))); (try simp only [Act.put, List.getElem_toArray, List.getElem_cons_succ, List.getElem_cons_zero, List.setIfInBounds_toArray, List.set_cons_zero, List.set_cons_succ]))
        refine Can.can_eff rfl rfl (by rfl) (fun K hK => ?_)
        go_simp
        refine (times_any F hF h12 r0 iv _ hr0l hinv).mono ?_
        rintro e w4 ⟨rfl, hb4⟩
        refine hK.out _ _ ⟨cell_up hHeld.1 hb4, cell_up hHeld.2.1 hb4, cell_up hHeld.2.2.1 hb4, cell_up hHeld.2.2.2.1 hb4, bup hHeld.2.2.2.2 hb4⟩ (fun hHeld1 => ?_)
        clear hK K
        (try simp only [Act.put, List.getElem_toArray, List.getElem_cons_succ, List.getElem_cons_zero, List.setIfInBounds_toArray, List.set_cons_zero, List.set_cons_succ])
        rw [← HST.out.2]
        repeat (refine Can.can_pure (v := ?_) rfl rfl (Or.inl ⟨by rfl, ?_⟩) ?_; rotate_left; (focus ((intro w hSw); (try dsimp only at hSw); go_simp; (try with_reducible rfl))); (try simp only [Act.put, List.getElem_toArray, List.getElem_cons_succ, List.getElem_cons_zero, List.setIfInBounds_toArray, List.set_cons_zero, List.set_cons_succ]))
        refine Can.can_done ?_
        have hB4 := hHeld1.2.2.2.2
        have HB4 := Lib.hid hB4
        have HF4 := Lib.hid (HFR.out.up hB4); clear hB4 hHeld hHeld1 hb4 x0 x1 x2 cr0
        obtain ⟨x0, x1, x2⟩ := HF4.out.three
        have hcs : ∀ x ∈ [c], x < F.s := fun x hx => by rw [List.mem_singleton] at hx; rw [hx]; exact hcl
        have HCS := Lib.hid hcs; clear hcs
        go_wp2_with fail
        refine (product_any F hF h12 _ _ ys [c] _ (HV2r.out.up (bal HB4.out _)).rd (Rd.one rfl 3 (.int .i64 (c : Int))) HY.out HCS.out hyn (by simp) (by omega) (by simp)).mono ?_
        rintro e w5 ⟨v5, rfl, hv5, hb5⟩
        rw [prod_single, tidy_of _ (Gf.scaled_tidy hF HT.out.2 HY.out hcp hcl)] at hv5
        have HB5 := Lib.hid (bup (bal HB4.out (.cells #[.int .i64 (c : Int)] 3)) hb5)
        have HF5 := Lib.hid (HF4.out.up (bup (bal (brf w4) (.cells #[.int .i64 (c : Int)] 3)) hb5)); clear hb5 HF4 x0 x1 x2
        have HV5 := Lib.hid hv5; clear hv5
        have hsl : (Gf.scaled F ys c).length = ys.length := Gf.scaled_len _ _ _
        go_wp2_with fail
        refine (shifted_any v5 (Gf.scaled F ys c) k _ HV5.out.rd (by omega) (by omega) (by omega)).mono ?_
        rintro e w6 ⟨v6, rfl, hv6, hb6⟩
        have HB6 := Lib.hid (bup HB5.out hb6)
        have HF6 := Lib.hid (HF5.out.up hb6); clear hb6 HF5
        have HV6 := Lib.hid hv6; clear hv6
        have htl := tidy_len (Gf.scaled F ys c ++ List.replicate k 0)
        have hal : (Gf.scaled F ys c ++ List.replicate k 0).length = ys.length + k := by rw [List.length_append, hsl, List.length_replicate]
        have hane : Gf.scaled F ys c ++ List.replicate k 0 ≠ [] := by intro h0; rw [h0, List.length_nil] at hal; omega
        have htn : 0 < (tidy (Gf.scaled F ys c ++ List.replicate k 0)).length := by
          rcases hq : tidy (Gf.scaled F ys c ++ List.replicate k 0) with _ | ⟨x, t⟩
          · exact absurd hq (tidy_ne _ hane)
          · simp
        have hl16 : ∀ x ∈ r, x < 65536 := fun x hx => by have := HLR.out x hx; omega
        have ht16 : ∀ x ∈ tidy (Gf.scaled F ys c ++ List.replicate k 0), x < 65536 := fun x hx => by
          have := Gf.tidy_lt (Gf.app_lt (Gf.scaled_lt hF c HY.out) (Gf.rep_lt k)) x hx; omega
        have HL16 := Lib.hid (And.intro hl16 ht16); clear hl16 ht16
        go_wp2_with fail
        refine (rsPlus_any _ v6 r (tidy (Gf.scaled F ys c ++ List.replicate k 0)) _ (HVR.out.up HB6.out).rd HV6.out.rd HL16.out.1 HL16.out.2 hrn htn (by omega) (by omega)).mono ?_
        rintro e w7 ⟨v7, rfl, hv7, hb7⟩
        rw [← HST.out.1] at hv7
        have HV7 := Lib.hid hv7; clear hv7
        have HF7 := Lib.hid (HF6.out.up hb7)
        have HW7 := Lib.hid (bup HW.out (bup HB6.out hb7)); clear hb7
        generalize Gf.restStep F ys r = r' at *
        clear HL16 htl hal hane htn hsl HST
        go_wp2
        go_roundg n
        case measure => exact hgn
        case rel => exact ⟨r', HV7, hrx8, HTx, HLx, HMx, HNx, HF7, HW7⟩
    · have HE : Hid (r = R) := Lib.hid (by rw [← HRE.out, Gf.rest_short _ _ _ _ hle])
      go_wp2
      go_ret
      exact ⟨_, rfl, by rw [← HE.out]; exact HVR.out, bup HB3.out HW.out⟩

set_option maxRecDepth 100000 in
/-- spec.RSPower. -/
theorem rsPower_any (F : Gf.Fd) (hF : Gf.Ok F) (h12 : F.m ≤ 12) (n : Nat) (w : World) (hn : n ≤ 4096) :
    Calls Try.prog 23 #[.agg #[.int .i64 F.p, .int .i64 F.s, .int .i64 F.b], .int .i64 n] w fun e w' => e = .returned (.int .i64 ((Gf.ex F n : Nat) : Int)) ∧ Below w.heap.size w w' := by
  have hs12 := s_le F h12
  have hs4 := Gf.s_ge4 hF
  have hstep := fun i => Gf.mul_ex hF 1 i
  rw [Gf.ex_one hF] at hstep
  have HS := Lib.hid hstep; clear hstep
  have HL := Lib.hid (Gf.ex_lt hF)
  have HE0 : Hid (Gf.ex F 0 = 1) := Lib.hid rfl
  go_enter Try.func23, Try.ntmps23
  go_wp2
  go_loopw [5, 6] (fun ov iv wr => ∃ (i x : Nat), i ≤ n ∧ ov = .int .i64 x ∧ iv = .int .i64 i ∧ Hid (x = Gf.ex F i) ∧ Hid (Blk wr w.heap.size 27 #[.int .i64 F.p, .int .i64 F.s, .int .i64 F.b]) ∧ Hid (Below w.heap.size w wr)) (fun _ iv _ => n - (intOf iv).toNat)
  case atStart => exact ⟨0, 1, Nat.zero_le _, rfl, rfl, Lib.hid HE0.out.symm, Lib.hid (Blk.fresh w _ _), Lib.hid (bal (brf w) _)⟩
  case round =>
    obtain ⟨i, x, hi, rfl, rfl, HX, HB, HW⟩ := hrel
    by_cases hlt : i < n
    · obtain ⟨x0, x1, x2⟩ := HB.out.three
      have hxl : x < F.s := by rw [HX.out]; exact HL.out i
      have hT := fun W => times_any F hF h12 x 2 W hxl (by omega)
      have HX1 : Hid (Gf.mul F x 2 = Gf.ex F (i + 1)) := Lib.hid (by rw [HX.out]; exact HS.out i)
      have HT := Lib.hid hT; clear hT
      generalize Gf.mul F x 2 = y at *
      go_wp2_with fail
      refine (HT.out _).mono ?_
      rintro e w1 ⟨rfl, hb1⟩
      have HB1 := Lib.hid (HB.out.up hb1)
      have HW1 := Lib.hid (bup HW.out hb1); clear hb1
      go_wp2
      go_roundw
      case rel => exact ⟨i + 1, y, by omega, rfl, by go_num, HX1, HB1, HW1⟩
      case measure => simp [intOf]; omega
    · obtain rfl : i = n := by omega
      go_wp2
      go_ret
      exact ⟨ret_int (by rw [HX.out]), HW.out⟩

theorem gen_prod_ne (F : Gf.Fd) (xs : List Nat) (r : Nat) : Gf.prod F xs [1, r] ≠ [] := fun h => by
  have := congrArg List.length h
  rw [Gf.prod_len] at this
  simp at this
set_option maxRecDepth 100000 in
/-- spec.RSGenerator. -/
theorem rsGenerator_any (F : Gf.Fd) (hF : Gf.Ok F) (h12 : F.m ≤ 12) (hb1 : F.b ≤ 1) (n : Nat) (w : World) (hn : n ≤ 4096) :
    Calls Try.prog 15 #[.agg #[.int .i64 F.p, .int .i64 F.s, .int .i64 F.b], .int .i64 n] w fun e w' => ∃ v, e = .returned v ∧ RdT w' 3 v (nv (Gf.gen F n)) ∧ Below w.heap.size w w' := by
  have hs12 := s_le F h12
  have hs4 := Gf.s_ge4 hF
  have hstep := fun i => Gf.mul_ex hF 1 i
  rw [Gf.ex_one hF] at hstep
  have HS := Lib.hid hstep; clear hstep
  have HL := Lib.hid (Gf.ex_lt hF)
  have HG := Lib.hid (Gf.gen_spec hF)
  go_enter Try.func15, Try.ntmps15
  go_wp2_with fail
  refine (rsPower_any F hF h12 F.b _ (by omega)).mono ?_
  rintro e w1 ⟨rfl, hb1'⟩
  have HB1 := Lib.hid (bup (bal (bal (brf w) (.cells #[.int .i64 F.p, .int .i64 F.s, .int .i64 F.b] 27)) (.cells #[.int .i64 1] 3)) hb1')
  have HF1 := Lib.hid (((Blk.fresh w 27 #[.int .i64 F.p, .int .i64 F.s, .int .i64 F.b]).alloc (.cells #[.int .i64 1] 3)).up hb1')
  have HV1 : Hid (RdT w1 3 (.slice (some ⟨w.heap.size + 1, 0, none⟩) 1 1) (nv (Gf.gen F 0))) := Lib.hid ((RdT.one (b := w.heap.size + 1) (w := w.alloc (.cells #[.int .i64 F.p, .int .i64 F.s, .int .i64 F.b] 27)) (by simp) 3 (.int .i64 1)).up hb1')
  clear hb1'
  obtain ⟨x, hx⟩ : ∃ x, x = Gf.ex F F.b := ⟨_, rfl⟩
  rw [← hx]
  have HX : Hid (x = Gf.ex F (0 + F.b)) := Lib.hid (by rw [hx, Nat.zero_add]); clear hx
  go_wp2_with fail
  go_loopw [5, 6, 7] (fun ov xv iv wr => ∃ (i x : Nat), i ≤ n ∧ Hid (RdT wr 3 ov (nv (Gf.gen F i))) ∧ xv = .int .i64 x ∧ iv = .int .i64 i ∧ Hid (x = Gf.ex F (i + F.b)) ∧
    Hid (Blk wr w.heap.size 27 #[.int .i64 F.p, .int .i64 F.s, .int .i64 F.b]) ∧ Hid (Below w.heap.size w wr)) (fun _ _ iv _ => n - (intOf iv).toNat)
  case atStart => exact ⟨0, x, Nat.zero_le _, HV1, rfl, rfl, HX, HF1, HB1⟩
  case round =>
    clear HX HF1 HB1 HV1
    obtain ⟨i, x, hi, HV, rfl, rfl, HX, HB, HW⟩ := hrel
    by_cases hlt : i < n
    · obtain ⟨x0, x1, x2⟩ := HB.out.three
      have hxl : x < F.s := by rw [HX.out]; exact HL.out _
      have hT := fun W => times_any F hF h12 x 2 W hxl (by omega)
      have hX1 : Gf.mul F x 2 = Gf.ex F (i + 1 + F.b) := by rw [HX.out, show i + 1 + F.b = i + F.b + 1 by omega]; exact HS.out _
      have HT := Lib.hid hT; clear hT
      have HX1 := Lib.hid hX1; clear hX1
      generalize Gf.mul F x 2 = y at *
      have hgn : tidy (Gf.prod F (Gf.gen F i) [1, x]) = Gf.gen F (i + 1) := by rw [HX.out]; rfl
      have HGN := Lib.hid hgn; clear hgn
      obtain ⟨g1, g2, g3, _⟩ := HG.out i
      have hgl : (Gf.gen F i).length = i + 1 := by rw [g1, List.length_cons, g2]
      have hps : ∀ z ∈ [1, x], z < F.s := fun z hz => by
        rcases List.mem_cons.1 hz with rfl | hz
        · omega
        · rw [List.mem_singleton] at hz; rw [hz]; exact hxl
      have HPS := Lib.hid (And.intro g3 hps); clear g1 g2 g3 hps
      generalize hgi : Gf.gen F i = gi at *
      clear hgi
      have hgl1 : gi.length ≤ 4097 := by omega
      have hgl2 : 0 < gi.length := by omega
      clear hgl
      have HPr : Hid (RdT (wr.alloc (.cells #[.int .i64 1, .int .i64 x] 3)) 3 (.slice (some ⟨wr.heap.size, 0, none⟩) 2 2) (nv [1, x])) := Lib.hid (RdT.of_blk (xs := nv [1, x]) (Blk.fresh wr 3 _) rfl (Nat.le_refl _) (by decide))
      have HBa := Lib.hid (HB.out.alloc (.cells #[.int .i64 1, .int .i64 x] 3))
      have HWa := Lib.hid (bal HW.out (.cells #[.int .i64 1, .int .i64 x] 3))
      have HVa := Lib.hid (HV.out.up (bal (brf wr) (.cells #[.int .i64 1, .int .i64 x] 3)))
      clear HB HW HV
      go_wp2_with fail
      refine (product_any F hF h12 _ _ gi [1, x] _ HVa.out.rd HPr.out.rd HPS.out.1 HPS.out.2 hgl2 (by simp) (by omega) (by simp)).mono ?_
      rintro e w2 ⟨v2, rfl, hv2, hb2⟩
      rw [HGN.out] at hv2
      have HB2 := Lib.hid (HBa.out.up hb2)
      have HW2 := Lib.hid (bup HWa.out hb2); clear hb2 HBa HWa HPr HVa x0 x1 x2
      have HV2 := Lib.hid hv2; clear hv2
      obtain ⟨x0, x1, x2⟩ := HB2.out.three
      go_wp2_with fail
      refine (HT.out _).mono ?_
      rintro e w3 ⟨rfl, hb3⟩
      have HB3 := Lib.hid (HB2.out.up hb3)
      have HV3 := Lib.hid (HV2.out.up hb3)
      have HW3 := Lib.hid (bup HW2.out hb3); clear hb3
      go_wp2
      go_roundw
      case rel => exact ⟨i + 1, y, by omega, HV3, rfl, by go_num, HX1, HB3, HW3⟩
      case measure => simp [intOf]; omega
    · obtain rfl : i = n := by omega
      go_wp2
      go_ret
      exact ⟨_, rfl, HV.out, HW.out⟩
end Go.Proofs.Ytibdeekgcbmofaa
