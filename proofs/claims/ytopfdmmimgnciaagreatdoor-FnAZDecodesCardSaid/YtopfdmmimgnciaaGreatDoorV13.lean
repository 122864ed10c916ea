/-
  WALKS: the reference's rest of a division, powers of 2, generator, and code. WALKS: the reference's code; the data of the laws. WALKS: spec.AZWidth, AZField, AZBits, AZSymbol. WALKS: laws.azSymbol; PLAIN: how long a message's bits are.
-/
import Derived.Test.YtopfdmmimgnciaaGreatDoorV40
import Derived.Deep.LoopGhost
import Derived.Test.YtopfdmmimgnciaaGreatDoorV01
import Derived.Test.YtopfdmmimgnciaaGreatDoorV06
import Derived.Test.YtopfdmmimgnciaaGreatDoorV11
namespace Go.Proofs.YtopfdmmimgnciaaGreatDoor
open Go.RowKit

theorem outer_single (F : Gf.Fd) (c : Nat) : ∀ (xs pre : List Nat), Gf.outer F xs [c] pre.length (pre ++ List.replicate xs.length 0) = pre ++ Gf.scaled F xs c
  | [], pre => rfl
  | x :: xs, pre => by
    have e1 : Gf.addAt (pre ++ List.replicate (x :: xs).length 0) pre.length (Gf.mul F x c) = (pre ++ [Gf.mul F x c]) ++ List.replicate xs.length 0 := by
      rw [List.length_cons, List.replicate_succ, Gf.addAt_mid, Nat.zero_xor]; simp
    have ih := outer_single F c xs (pre ++ [Gf.mul F x c])
    rw [List.length_append] at ih
    show Gf.outer F xs [c] (pre.length + 1) (Gf.addAt (pre ++ List.replicate (x :: xs).length 0) pre.length (Gf.mul F x c)) = _
    rw [e1]
    refine ih.trans ?_
    show (pre ++ [Gf.mul F x c]) ++ Gf.scaled F xs c = pre ++ (Gf.mul F x c :: Gf.scaled F xs c)
    simp
theorem prod_single (F : Gf.Fd) (c : Nat) (xs : List Nat) : Gf.prod F xs [c] = Gf.scaled F xs c := by
  have := outer_single F c xs []
  unfold Gf.prod
  have e : xs.length + [c].length - 1 = xs.length := rfl
  rw [e]
  simpa using this
theorem rsZero_yes (v : Value) (xs : List Nat) (w : World) (hv : Rd w w.heap.size v (nv xs)) (hn : 0 < xs.length) (h : xs = [0]) :
    Calls Tryz.prog 87 #[v] w fun e w' => e = .returned (.bool true) ∧ w' = w :=
  (rsZero_any v xs w hv hn).mono fun e w' ⟨he, hw⟩ => ⟨by rw [he, decide_eq_true h], hw⟩
theorem rsZero_no (v : Value) (xs : List Nat) (w : World) (hv : Rd w w.heap.size v (nv xs)) (hn : 0 < xs.length) (h : ¬ xs = [0]) :
    Calls Tryz.prog 87 #[v] w fun e w' => e = .returned (.bool false) ∧ w' = w :=
  (rsZero_any v xs w hv hn).mono fun e w' ⟨he, hw⟩ => ⟨by rw [he, decide_eq_false h], hw⟩

set_option maxRecDepth 100000 in
set_option maxHeartbeats 4000000 in
/-- spec.RSRest. -/
theorem rsRest_any (F : Gf.Fd) (hF : Gf.Ok F) (h12 : F.m ≤ 12) (a b : Value) (xs ys : List Nat) (fuel : Nat) (w : World) (ha : Rd w w.heap.size a (nv xs)) (hb : Rd w w.heap.size b (nv ys))
    (hx : ∀ x ∈ xs, x < F.s) (hy : ∀ y ∈ ys, y < F.s) (hxt : Tidy xs) (hyt : Tidy ys) (hy0 : ys.getD 0 0 ≠ 0) (hx4 : xs.length ≤ 8192) (hy4 : ys.length ≤ 8192) (hfu : xs.length ≤ fuel) :
    Calls Tryz.prog 58 #[.agg #[.int .i64 F.p, .int .i64 F.s, .int .i64 F.b], a, b] w fun e w' => ∃ v, e = .returned v ∧ RdT w' 3 v (nv (Gf.rest F ys fuel xs)) ∧ Below w.heap.size w w' := by
  have hs12 := s_le F h12
  have hyn : 0 < ys.length := by rcases ys with _ | ⟨x, r⟩; exact absurd rfl hyt.1; simp
  have hl0 : ys.getD 0 0 < F.s := by rw [getD_lt _ _ _ hyn]; exact hy _ (List.getElem_mem hyn)
  have hlp : 0 < ys.getD 0 0 := by omega
  have HY0 := Lib.hid hy0; clear hy0
  obtain ⟨y0v, hy0v⟩ : ∃ y0v, y0v = ys.getD 0 0 := ⟨_, rfl⟩
  rw [← hy0v] at hl0 hlp
  have HYV := Lib.hid hy0v; clear hy0v
  have HX := Lib.hid hx; clear hx
  have HY := Lib.hid hy; clear hy
  have HT := Lib.hid (And.intro hxt hyt); clear hxt hyt
  have HA := Lib.hid ha; clear ha
  have HB := Lib.hid hb; clear hb
  generalize hR : Gf.rest F ys fuel xs = R
  have HR2 : Hid (Gf.rest F ys fuel xs = R) := Lib.hid hR
  clear hR
  go_enter Tryz.func58, Tryz.ntmps58
  go_wp2_with fail
  refine (tidy_any a xs _ (HA.out.up (bal (brf w) _)) HT.out.1.1 (by omega)).mono ?_
  rintro e w1 ⟨v1, rfl, hv1, hb1⟩
  rw [tidy_of xs HT.out.1] at hv1
  have HB1 := Lib.hid (bup (bal (brf w) _) hb1)
  have HF1 := Lib.hid ((Blk.fresh w 30 #[.int .i64 F.p, .int .i64 F.s, .int .i64 F.b]).up hb1); clear hb1
  go_wp2_with fail
  refine (tidy_any b ys _ (HB.out.up HB1.out) HT.out.2.1 (by omega)).mono ?_
  rintro e w2 ⟨v2, rfl, hv2, hb2⟩
  rw [tidy_of ys HT.out.2] at hv2
  have HV1 := Lib.hid (hv1.up hb2); clear hv1
  have HB2 := Lib.hid (bup HB1.out hb2)
  have HF2 := Lib.hid (HF1.out.up hb2); clear hb2 HF1 HB1
  have hv2' := hv2
  obtain ⟨A2, c2, rfl, k1, k2, k3⟩ := hv2.rd
  simp only [nv_len] at *
  unfold maxLen at k2
  obtain ⟨bb, ob, rfl, hbb, hcb⟩ := k3 hyn
  have c0 := hcb 0 _ (nv_at ys 0 hyn)
  have e0 : ys[0] = y0v := by rw [HYV.out, getD_lt _ _ _ hyn]
  rw [Nat.add_zero, e0] at c0
  have HV2 := Lib.hid hv2'; clear hv2 hv2' k3 e0 hcb
  obtain ⟨x0, x1, x2⟩ := HF2.out.three
  go_wp2_with fail
  refine Can.wp_region_can (fun w' => w'.cell? ⟨w.heap.size, 0, none⟩ = some (.int .i64 F.p) ∧ w'.cell? ⟨w.heap.size, 1, none⟩ = some (.int .i64 F.s) ∧ w'.cell? ⟨w.heap.size, 2, none⟩ = some (.int .i64 F.b) ∧ w'.cell? ⟨bb, ob, none⟩ = some (.int .i64 ((y0v : Nat) : Int)) ∧ Below w2.heap.size w2 w') 999 [0, 1, 2, 3, 4, 5] (by kernel_rfl) (by kernel_rfl) (fun _ _ d _ _ h => by cases d <;> exact h) ⟨x0, x1, x2, c0, bdr (brf _)⟩ (fun hHeld => ?_)
  repeat (refine Can.can_pure (v := ?_) rfl rfl (Or.inl ⟨by rfl, ?_⟩) ?_; rotate_left; (focus ((intro w hSw); (try dsimp only at hSw); go_simp; (try with_reducible rfl))); (try simp only [Act.put, List.getElem_toArray, List.getElem_cons_succ, List.getElem_cons_zero, List.setIfInBounds_toArray, List.set_cons_zero, List.set_cons_succ]))
  refine Can.can_eff rfl rfl (by rfl) (fun K hK => ?_)
  go_simp
  refine (rsInverse_any F hF h12 y0v _ hlp hl0).mono ?_
  rintro e w3 ⟨rfl, hb3⟩
  refine hK.out _ _ ⟨cell_up hHeld.1 hb3, cell_up hHeld.2.1 hb3, cell_up hHeld.2.2.1 hb3, cell_up hHeld.2.2.2.1 hb3, bup hHeld.2.2.2.2 hb3⟩ (fun hHeld1 => ?_)
  clear hK K
  (try simp only [Act.put, List.getElem_toArray, List.getElem_cons_succ, List.getElem_cons_zero, List.setIfInBounds_toArray, List.set_cons_zero, List.set_cons_succ])
  repeat (refine Can.can_pure (v := ?_) rfl rfl (Or.inl ⟨by rfl, ?_⟩) ?_; rotate_left; (focus ((intro w hSw); (try dsimp only at hSw); go_simp; (try with_reducible rfl))); (try simp only [Act.put, List.getElem_toArray, List.getElem_cons_succ, List.getElem_cons_zero, List.setIfInBounds_toArray, List.set_cons_zero, List.set_cons_succ]))
  refine Can.can_done ?_
  have hinv : Gf.inv F y0v < F.s := Gf.inv_lt hF _
  obtain ⟨iv, hiv⟩ : ∃ iv, iv = Gf.inv F y0v := ⟨_, rfl⟩
  rw [← hiv] at hinv ⊢
  have HIV := Lib.hid hiv; clear hiv
  have HV1' := Lib.hid (HV1.out.up hHeld1.2.2.2.2); clear HV1
  have HV2' := Lib.hid (HV2.out.up hHeld1.2.2.2.2); clear HV2
  have HF3 := Lib.hid (HF2.out.up hHeld1.2.2.2.2); clear HF2
  have HB3 := Lib.hid (bup HB2.out hHeld1.2.2.2.2); clear HB2 hHeld hHeld1 hb3 x0 x1 x2 c0
  go_wp2_with fail
  go_loopg [7] fuel (fun k v7 wr => ∃ (r : List Nat), Hid (RdT wr 3 v7 (nv r)) ∧ r.length ≤ 8192 ∧ Hid (Tidy r) ∧ Hid (∀ x ∈ r, x < F.s) ∧ Hid (Gf.mes r ≤ k) ∧ Hid (Gf.rest F ys k r = R) ∧
    Hid (Blk wr w.heap.size 30 #[.int .i64 F.p, .int .i64 F.s, .int .i64 F.b]) ∧ Hid (Below w3.heap.size w3 wr))
  case atStart => exact ⟨xs, HV1', hx4, Lib.hid HT.out.1, HX, Lib.hid (Nat.le_trans (Gf.mes_le xs) hfu), HR2, HF3, Lib.hid (brf _)⟩
  case round =>
    obtain ⟨r, HVR, hr8, HTR, HLR, HM, HRE, HFR, HW⟩ := hrel
    have hrn : 0 < r.length := by
      have := HTR.out.1
      rcases r with _ | ⟨x, t⟩
      · exact absurd rfl this
      · simp
    obtain ⟨Ar, cr, rfl, j1, j2, j3⟩ := HVR.out.rd
    simp only [nv_len] at *
    unfold maxLen at j2
    obtain ⟨br, or_, rfl, hbr, hcr⟩ := j3 hrn
    have cr0 := hcr 0 _ (nv_at r 0 hrn)
    rw [Nat.add_zero] at cr0
    clear j3 hcr
    by_cases hle : ys.length ≤ r.length
    · by_cases hz : r = [0]
      · have HE : Hid (r = R) := Lib.hid (by rw [← HRE.out, hz, Gf.rest_zero])
        have HZ := Lib.hid hz; clear hz
        go_wp2_with fail
        refine (rsZero_yes _ r _ HVR.out.rd hrn HZ.out).mono ?_
        rintro e wr ⟨rfl, rfl⟩
        go_wp2
        go_ret
        exact ⟨_, rfl, by rw [← HE.out]; exact HVR.out, bup HB3.out HW.out⟩
      · have hmes := Gf.restStep_mes hF HY.out HLR.out hyn HY0.out HTR.out hle hz
        have hmr : Gf.mes r = r.length := by unfold Gf.mes; rw [if_neg hz]
        obtain ⟨n, hn⟩ : ∃ n, gk = n + 1 := ⟨gk - 1, by have := HM.out; omega⟩
        have HNx : Hid (Gf.rest F ys n (Gf.restStep F ys r) = R) := Lib.hid (by rw [← Gf.rest_step F ys n r hle hz, ← hn]; exact HRE.out)
        have HMx : Hid (Gf.mes (Gf.restStep F ys r) ≤ n) := Lib.hid (by have := HM.out; omega)
        have hgn : n < gk := by omega
        have HTx : Hid (Tidy (Gf.restStep F ys r)) := Lib.hid (Gf.restStep_tidy HTR.out.1)
        have HLx : Hid (∀ x ∈ Gf.restStep F ys r, x < F.s) := Lib.hid (Gf.restStep_lt hF HY.out HLR.out)
        have hrx8 : (Gf.restStep F ys r).length ≤ 8192 := by omega
        have hcl := Gf.lead_lt hF ys HLR.out hrn
        have hcp := Gf.lead_pos (b := ys) hF HTR.out HLR.out hz
        have hr0l : r.getD 0 0 < F.s := by rw [getD_lt _ _ _ hrn]; exact HLR.out _ (List.getElem_mem hrn)
        obtain ⟨k, hk⟩ : ∃ k : Nat, (r.length : Int) - (ys.length : Int) = (k : Int) := ⟨r.length - ys.length, by omega⟩
        have hkn : r.length - ys.length = k := by omega
        have hk8 : k ≤ 8192 := by omega
        have hstep : Gf.restStep F ys r = tidy (Gf.padd r (tidy (Gf.scaled F ys (Gf.lead F ys r) ++ List.replicate k 0))) := by unfold Gf.restStep Gf.term; rw [hkn]
        have hld : Gf.lead F ys r = Gf.mul F (r.getD 0 0) iv := by rw [HIV.out, HYV.out]; rfl
        have er0 : r[0] = r.getD 0 0 := (getD_lt _ _ _ hrn).symm
        rw [er0] at cr0
        obtain ⟨r0, hr0e⟩ : ∃ r0, r0 = r.getD 0 0 := ⟨_, rfl⟩
        rw [← hr0e] at hld hr0l cr0
        obtain ⟨c, hc⟩ : ∃ c, c = Gf.lead F ys r := ⟨_, rfl⟩
        rw [← hc] at hcl hcp hstep hld
        have HST := Lib.hid (And.intro hstep hld); clear hstep hld hc hr0e hmes hmr hn hkn er0
        have HZ := Lib.hid hz; clear hz
        clear HM HRE
        obtain ⟨x0, x1, x2⟩ := HFR.out.three
        have HV2r := Lib.hid (HV2'.out.up HW.out)
        go_wp2_with fail
        refine (rsZero_no _ r _ HVR.out.rd hrn HZ.out).mono ?_
        rintro e wr ⟨rfl, rfl⟩
        go_wp2_with fail
        refine Can.wp_region_can (fun w' => w'.cell? ⟨w.heap.size, 0, none⟩ = some (.int .i64 F.p) ∧ w'.cell? ⟨w.heap.size, 1, none⟩ = some (.int .i64 F.s) ∧ w'.cell? ⟨w.heap.size, 2, none⟩ = some (.int .i64 F.b) ∧ w'.cell? ⟨br, or_, none⟩ = some (.int .i64 ((r0 : Nat) : Int)) ∧ Below wr.heap.size wr w') 999 [0, 1, 2, 3, 4, 5, 6] (by kernel_rfl) (by kernel_rfl) (fun _ _ d _ _ h => by cases d <;> exact h) ⟨x0, x1, x2, cr0, bdr (brf _)⟩ (fun hHeld => ?_)
        repeat (refine Can.can_pure (v := ?_) rfl rfl (Or.inl ⟨by rfl, ?_⟩) ?_; rotate_left; (focus ((intro w hSw); (try dsimp only at hSw); go_simp; (try with_reducible rfl))); (try simp only [Act.put, List.getElem_toArray, List.getElem_cons_succ, List.getElem_cons_zero, List.setIfInBounds_toArray, List.set_cons_zero, List.set_cons_succ]))
        refine Can.can_eff rfl rfl (by rfl) (fun K hK => ?_)
        go_simp
        refine (times_any F hF h12 r0 iv _ hr0l hinv).mono ?_
        rintro e w4 ⟨rfl, hb4⟩
        refine hK.out _ _ ⟨cell_up hHeld.1 hb4, cell_up hHeld.2.1 hb4, cell_up hHeld.2.2.1 hb4, cell_up hHeld.2.2.2.1 hb4, bup hHeld.2.2.2.2 hb4⟩ (fun hHeld1 => ?_)
        clear hK K
        (try simp only [Act.put, List.getElem_toArray, List.getElem_cons_succ, List.getElem_cons_zero, List.setIfInBounds_toArray, List.set_cons_zero, List.set_cons_succ])
        rw [← HST.out.2]
        repeat (refine Can.can_pure (v := ?_) rfl rfl (Or.inl ⟨by rfl, ?_⟩) ?_; rotate_left; (focus ((intro w hSw); (try dsimp only at hSw); go_simp; (try with_reducible rfl))); (try simp only [Act.put, List.getElem_toArray, List.getElem_cons_succ, List.getElem_cons_zero, List.setIfInBounds_toArray, List.set_cons_zero, List.set_cons_succ]))
        refine Can.can_done ?_
        have hB4 := hHeld1.2.2.2.2
        have HB4 := Lib.hid hB4
        have HF4 := Lib.hid (HFR.out.up hB4); clear hB4 hHeld hHeld1 hb4 x0 x1 x2 cr0
        obtain ⟨x0, x1, x2⟩ := HF4.out.three
        have hcs : ∀ x ∈ [c], x < F.s := fun x hx => by rw [List.mem_singleton] at hx; rw [hx]; exact hcl
        have HCS := Lib.hid hcs; clear hcs
        go_wp2_with fail
        refine (product_any F hF h12 _ _ ys [c] _ (HV2r.out.up (bal HB4.out _)).rd (Rd.one rfl 3 (.int .i64 (c : Int))) HY.out HCS.out hyn (by simp) (by omega) (by simp)).mono ?_
        rintro e w5 ⟨v5, rfl, hv5, hb5⟩
        rw [prod_single, tidy_of _ (Gf.scaled_tidy hF HT.out.2 HY.out hcp hcl)] at hv5
        have HB5 := Lib.hid (bup (bal HB4.out (.cells #[.int .i64 (c : Int)] 3)) hb5)
        have HF5 := Lib.hid (HF4.out.up (bup (bal (brf w4) (.cells #[.int .i64 (c : Int)] 3)) hb5)); clear hb5 HF4 x0 x1 x2
        have HV5 := Lib.hid hv5; clear hv5
        have hsl : (Gf.scaled F ys c).length = ys.length := Gf.scaled_len _ _ _
        go_wp2_with fail
        refine (shifted_any v5 (Gf.scaled F ys c) k _ HV5.out.rd (by omega) (by omega) (by omega)).mono ?_
        rintro e w6 ⟨v6, rfl, hv6, hb6⟩
        have HB6 := Lib.hid (bup HB5.out hb6)
        have HF6 := Lib.hid (HF5.out.up hb6); clear hb6 HF5
        have HV6 := Lib.hid hv6; clear hv6
        have htl := tidy_len (Gf.scaled F ys c ++ List.replicate k 0)
        have hal : (Gf.scaled F ys c ++ List.replicate k 0).length = ys.length + k := by rw [List.length_append, hsl, List.length_replicate]
        have hane : Gf.scaled F ys c ++ List.replicate k 0 ≠ [] := by intro h0; rw [h0, List.length_nil] at hal; omega
        have htn : 0 < (tidy (Gf.scaled F ys c ++ List.replicate k 0)).length := by
          rcases hq : tidy (Gf.scaled F ys c ++ List.replicate k 0) with _ | ⟨x, t⟩
          · exact absurd hq (tidy_ne _ hane)
          · simp
        have hl16 : ∀ x ∈ r, x < 65536 := fun x hx => by have := HLR.out x hx; omega
        have ht16 : ∀ x ∈ tidy (Gf.scaled F ys c ++ List.replicate k 0), x < 65536 := fun x hx => by
          have := Gf.tidy_lt (Gf.app_lt (Gf.scaled_lt hF c HY.out) (Gf.rep_lt k)) x hx; omega
        have HL16 := Lib.hid (And.intro hl16 ht16); clear hl16 ht16
        go_wp2_with fail
        refine (rsPlus_any _ v6 r (tidy (Gf.scaled F ys c ++ List.replicate k 0)) _ (HVR.out.up HB6.out).rd HV6.out.rd HL16.out.1 HL16.out.2 hrn htn (by omega) (by omega)).mono ?_
        rintro e w7 ⟨v7, rfl, hv7, hb7⟩
        rw [← HST.out.1] at hv7
        have HV7 := Lib.hid hv7; clear hv7
        have HF7 := Lib.hid (HF6.out.up hb7)
        have HW7 := Lib.hid (bup HW.out (bup HB6.out hb7)); clear hb7
        generalize Gf.restStep F ys r = r' at *
        clear HL16 htl hal hane htn hsl HST
        go_wp2
        go_roundg n
        case measure => exact hgn
        case rel => exact ⟨r', HV7, hrx8, HTx, HLx, HMx, HNx, HF7, HW7⟩
    · have HE : Hid (r = R) := Lib.hid (by rw [← HRE.out, Gf.rest_short _ _ _ _ hle])
      go_wp2
      go_ret
      exact ⟨_, rfl, by rw [← HE.out]; exact HVR.out, bup HB3.out HW.out⟩

set_option maxRecDepth 100000 in
/-- spec.RSPower. -/
theorem rsPower_any (F : Gf.Fd) (hF : Gf.Ok F) (h12 : F.m ≤ 12) (n : Nat) (w : World) (hn : n ≤ 4096) :
    Calls Tryz.prog 91 #[.agg #[.int .i64 F.p, .int .i64 F.s, .int .i64 F.b], .int .i64 n] w fun e w' => e = .returned (.int .i64 ((Gf.ex F n : Nat) : Int)) ∧ Below w.heap.size w w' := by
  have hs12 := s_le F h12
  have hs4 := Gf.s_ge4 hF
  have hstep := fun i => Gf.mul_ex hF 1 i
  rw [Gf.ex_one hF] at hstep
  have HS := Lib.hid hstep; clear hstep
  have HL := Lib.hid (Gf.ex_lt hF)
  have HE0 : Hid (Gf.ex F 0 = 1) := Lib.hid rfl
  go_enter Tryz.func91, Tryz.ntmps91
  go_wp2
  go_loopw [5, 6] (fun ov iv wr => ∃ (i x : Nat), i ≤ n ∧ ov = .int .i64 x ∧ iv = .int .i64 i ∧ Hid (x = Gf.ex F i) ∧ Hid (Blk wr w.heap.size 30 #[.int .i64 F.p, .int .i64 F.s, .int .i64 F.b]) ∧ Hid (Below w.heap.size w wr)) (fun _ iv _ => n - (intOf iv).toNat)
  case atStart => exact ⟨0, 1, Nat.zero_le _, rfl, rfl, Lib.hid HE0.out.symm, Lib.hid (Blk.fresh w _ _), Lib.hid (bal (brf w) _)⟩
  case round =>
    obtain ⟨i, x, hi, rfl, rfl, HX, HB, HW⟩ := hrel
    by_cases hlt : i < n
    · obtain ⟨x0, x1, x2⟩ := HB.out.three
      have hxl : x < F.s := by rw [HX.out]; exact HL.out i
      have hT := fun W => times_any F hF h12 x 2 W hxl (by omega)
      have HX1 : Hid (Gf.mul F x 2 = Gf.ex F (i + 1)) := Lib.hid (by rw [HX.out]; exact HS.out i)
      have HT := Lib.hid hT; clear hT
      generalize Gf.mul F x 2 = y at *
      go_wp2_with fail
      refine (HT.out _).mono ?_
      rintro e w1 ⟨rfl, hb1⟩
      have HB1 := Lib.hid (HB.out.up hb1)
      have HW1 := Lib.hid (bup HW.out hb1); clear hb1
      go_wp2
      go_roundw
      case rel => exact ⟨i + 1, y, by omega, rfl, by go_num, HX1, HB1, HW1⟩
      case measure => simp [intOf]; omega
    · obtain rfl : i = n := by omega
      go_wp2
      go_ret
      exact ⟨ret_int (by rw [HX.out]), HW.out⟩

set_option maxRecDepth 100000 in
/-- spec.RSGenerator. -/
theorem rsGenerator_any (F : Gf.Fd) (hF : Gf.Ok F) (h12 : F.m ≤ 12) (hb1 : F.b ≤ 1) (n : Nat) (w : World) (hn : n ≤ 4096) :
    Calls Tryz.prog 60 #[.agg #[.int .i64 F.p, .int .i64 F.s, .int .i64 F.b], .int .i64 n] w fun e w' => ∃ v, e = .returned v ∧ RdT w' 3 v (nv (Gf.gen F n)) ∧ Below w.heap.size w w' := by
  have hs12 := s_le F h12
  have hs4 := Gf.s_ge4 hF
  have hstep := fun i => Gf.mul_ex hF 1 i
  rw [Gf.ex_one hF] at hstep
  have HS := Lib.hid hstep; clear hstep
  have HL := Lib.hid (Gf.ex_lt hF)
  have HG := Lib.hid (Gf.gen_spec hF)
  go_enter Tryz.func60, Tryz.ntmps60
  go_wp2_with fail
  refine (rsPower_any F hF h12 F.b _ (by omega)).mono ?_
  rintro e w1 ⟨rfl, hb1'⟩
  have HB1 := Lib.hid (bup (bal (bal (brf w) (.cells #[.int .i64 F.p, .int .i64 F.s, .int .i64 F.b] 30)) (.cells #[.int .i64 1] 3)) hb1')
  have HF1 := Lib.hid (((Blk.fresh w 30 #[.int .i64 F.p, .int .i64 F.s, .int .i64 F.b]).alloc (.cells #[.int .i64 1] 3)).up hb1')
  have HV1 : Hid (RdT w1 3 (.slice (some ⟨w.heap.size + 1, 0, none⟩) 1 1) (nv (Gf.gen F 0))) := Lib.hid ((RdT.one (b := w.heap.size + 1) (w := w.alloc (.cells #[.int .i64 F.p, .int .i64 F.s, .int .i64 F.b] 30)) (by simp) 3 (.int .i64 1)).up hb1')
  clear hb1'
  obtain ⟨x, hx⟩ : ∃ x, x = Gf.ex F F.b := ⟨_, rfl⟩
  rw [← hx]
  have HX : Hid (x = Gf.ex F (0 + F.b)) := Lib.hid (by rw [hx, Nat.zero_add]); clear hx
  go_wp2_with fail
  go_loopw [5, 6, 7] (fun ov xv iv wr => ∃ (i x : Nat), i ≤ n ∧ Hid (RdT wr 3 ov (nv (Gf.gen F i))) ∧ xv = .int .i64 x ∧ iv = .int .i64 i ∧ Hid (x = Gf.ex F (i + F.b)) ∧
    Hid (Blk wr w.heap.size 30 #[.int .i64 F.p, .int .i64 F.s, .int .i64 F.b]) ∧ Hid (Below w.heap.size w wr)) (fun _ _ iv _ => n - (intOf iv).toNat)
  case atStart => exact ⟨0, x, Nat.zero_le _, HV1, rfl, rfl, HX, HF1, HB1⟩
  case round =>
    clear HX HF1 HB1 HV1
    obtain ⟨i, x, hi, HV, rfl, rfl, HX, HB, HW⟩ := hrel
    by_cases hlt : i < n
    · obtain ⟨x0, x1, x2⟩ := HB.out.three
      have hxl : x < F.s := by rw [HX.out]; exact HL.out _
      have hT := fun W => times_any F hF h12 x 2 W hxl (by omega)
      have hX1 : Gf.mul F x 2 = Gf.ex F (i + 1 + F.b) := by rw [HX.out, show i + 1 + F.b = i + F.b + 1 by omega]; exact HS.out _
      have HT := Lib.hid hT; clear hT
      have HX1 := Lib.hid hX1; clear hX1
      generalize Gf.mul F x 2 = y at *
      have hgn : tidy (Gf.prod F (Gf.gen F i) [1, x]) = Gf.gen F (i + 1) := by rw [HX.out]; rfl
      have HGN := Lib.hid hgn; clear hgn
      obtain ⟨g1, g2, g3, _⟩ := HG.out i
      have hgl : (Gf.gen F i).length = i + 1 := by rw [g1, List.length_cons, g2]
      have hps : ∀ z ∈ [1, x], z < F.s := fun z hz => by
        rcases List.mem_cons.1 hz with rfl | hz
        · omega
        · rw [List.mem_singleton] at hz; rw [hz]; exact hxl
      have HPS := Lib.hid (And.intro g3 hps); clear g1 g2 g3 hps
      generalize hgi : Gf.gen F i = gi at *
      clear hgi
      have hgl1 : gi.length ≤ 4097 := by omega
      have hgl2 : 0 < gi.length := by omega
      clear hgl
      have HPr : Hid (RdT (wr.alloc (.cells #[.int .i64 1, .int .i64 x] 3)) 3 (.slice (some ⟨wr.heap.size, 0, none⟩) 2 2) (nv [1, x])) := Lib.hid (RdT.of_blk (xs := nv [1, x]) (Blk.fresh wr 3 _) rfl (Nat.le_refl _) (by decide))
      have HBa := Lib.hid (HB.out.alloc (.cells #[.int .i64 1, .int .i64 x] 3))
      have HWa := Lib.hid (bal HW.out (.cells #[.int .i64 1, .int .i64 x] 3))
      have HVa := Lib.hid (HV.out.up (bal (brf wr) (.cells #[.int .i64 1, .int .i64 x] 3)))
      clear HB HW HV
      go_wp2_with fail
      refine (product_any F hF h12 _ _ gi [1, x] _ HVa.out.rd HPr.out.rd HPS.out.1 HPS.out.2 hgl2 (by simp) (by omega) (by simp)).mono ?_
      rintro e w2 ⟨v2, rfl, hv2, hb2⟩
      rw [HGN.out] at hv2
      have HB2 := Lib.hid (HBa.out.up hb2)
      have HW2 := Lib.hid (bup HWa.out hb2); clear hb2 HBa HWa HPr HVa x0 x1 x2
      have HV2 := Lib.hid hv2; clear hv2
      obtain ⟨x0, x1, x2⟩ := HB2.out.three
      go_wp2_with fail
      refine (HT.out _).mono ?_
      rintro e w3 ⟨rfl, hb3⟩
      have HB3 := Lib.hid (HB2.out.up hb3)
      have HV3 := Lib.hid (HV2.out.up hb3)
      have HW3 := Lib.hid (bup HW2.out hb3); clear hb3
      go_wp2
      go_roundw
      case rel => exact ⟨i + 1, y, by omega, HV3, rfl, by go_num, HX1, HB3, HW3⟩
      case measure => simp [intOf]; omega
    · obtain rfl : i = n := by omega
      go_wp2
      go_ret
      exact ⟨_, rfl, HV.out, HW.out⟩
end Go.Proofs.YtopfdmmimgnciaaGreatDoor
namespace Go.Proofs.YtopfdmmimgnciaaGreatDoor
open Go.RowKit

theorem rest_ne (F : Gf.Fd) (b : List Nat) : ∀ (fuel : Nat) (r : List Nat), r ≠ [] → Gf.rest F b fuel r ≠ []
  | 0, r, h => h
  | n + 1, r, h => by
    rw [Gf.rest]
    split
    · exact rest_ne F b n _ (Gf.restStep_tidy h).1
    · exact h
set_option maxRecDepth 100000 in
set_option maxHeartbeats 4000000 in
/-- spec.RSEncode. -/
theorem rsEncode_any (F : Gf.Fd) (hF : Gf.Ok F) (h12 : F.m ≤ 12) (hb1 : F.b ≤ 1) (a : Value) (data : List Nat) (n : Nat) (w : World) (ha : Rd w w.heap.size a (nv data))
    (hd : ∀ x ∈ data, x < F.s) (hdn : 0 < data.length) (hd4 : data.length ≤ 4096) (hn : 0 < n) (hn4 : n ≤ 4096) :
    Calls Tryz.prog 36 #[.agg #[.int .i64 F.p, .int .i64 F.s, .int .i64 F.b], a, .int .i64 n] w fun e w' => ∃ v, e = .returned v ∧ RdT w' 3 v (nv (Gf.enc F n data)) ∧ Below w.heap.size w w' := by
  have hs12 := s_le F h12
  obtain ⟨i0, hi0, hz0, hz1, hz2⟩ := info_parts info_int
  have HA := Lib.hid ha; clear ha
  obtain ⟨g1, g2, g3, _⟩ := Gf.gen_spec hF n
  have hzs := Gf.app_lt hd (Gf.rep_lt (F := F) n)
  have hzl : (data ++ List.replicate n 0).length = data.length + n := by simp
  have hzne : data ++ List.replicate n 0 ≠ [] := by intro h0; rw [h0, List.length_nil] at hzl; omega
  have htl := tidy_len (data ++ List.replicate n 0)
  have hgt : Tidy (Gf.gen F n) := ⟨by rw [g1]; simp, .inr (by rw [g1]; simp)⟩
  have hg0 : (Gf.gen F n).getD 0 0 ≠ 0 := by rw [g1]; simp
  have hgl : (Gf.gen F n).length = n + 1 := by rw [g1, List.length_cons, g2]
  have hrl := Gf.rest_len hF hn hd (data.length + n) (by omega)
  have her := Gf.enc_rest hF hn hd (data.length + n) (by omega)
  have HR := fun v b W h1 h2 => rsRest_any F hF h12 v b (tidy (data ++ List.replicate n 0)) (Gf.gen F n) (data.length + n) W h1 h2 (Gf.tidy_lt hzs) g3 (tidy_tidy _ hzne) hgt hg0 (by omega) (by omega) (by omega)
  have hrne := rest_ne F (Gf.gen F n) (data.length + n) (tidy (data ++ List.replicate n 0)) (tidy_ne _ hzne)
  obtain ⟨R, hR⟩ : ∃ R, R = Gf.rest F (Gf.gen F n) (data.length + n) (tidy (data ++ List.replicate n 0)) := ⟨_, rfl⟩
  rw [← hR] at hrl her HR hrne
  have hrn : 0 < R.length := by
    rcases R with _ | ⟨x, t⟩
    · exact absurd rfl hrne
    · simp
  clear hrne
  have HRc := Lib.hid HR; clear HR hR
  have HER := Lib.hid her; clear her
  clear g1 g2 g3 hzs hzl hzne htl hgt hg0 hgl hd
  have HA1 := Lib.hid (HA.out.up (bal (brf w) (.cells #[.int .i64 F.p, .int .i64 F.s, .int .i64 F.b] 30)))
  obtain ⟨x0, x1, x2⟩ := (Blk.fresh w 30 #[.int .i64 F.p, .int .i64 F.s, .int .i64 F.b]).three
  obtain ⟨wb, hwb⟩ : ∃ wb, wb = w.alloc (.cells #[.int .i64 F.p, .int .i64 F.s, .int .i64 F.b] 30) := ⟨_, rfl⟩
  rw [← hwb] at x0 x1 x2 HA1
  have HB0 : Hid (Below w.heap.size w wb) := Lib.hid (by rw [hwb]; exact bal (brf w) _)
  have HWB := Lib.hid hwb.symm; clear hwb
  go_enter Tryz.func36, Tryz.ntmps36
  go_wp2_with fail
  rw [HWB.out]
  refine Can.wp_region_can (fun w' => w'.cell? ⟨w.heap.size, 0, none⟩ = some (.int .i64 F.p) ∧ w'.cell? ⟨w.heap.size, 1, none⟩ = some (.int .i64 F.s) ∧ w'.cell? ⟨w.heap.size, 2, none⟩ = some (.int .i64 F.b) ∧ Below wb.heap.size wb w') 999 [0, 1, 2, 4, 5, 3, 6, 7, 8] (by kernel_rfl) (by kernel_rfl) (fun _ _ d _ _ h => by cases d <;> exact h) ⟨x0, x1, x2, bdr (brf _)⟩ (fun hHeld => ?_)
  repeat (refine Can.can_pure (v := ?_) rfl rfl (Or.inl ⟨by rfl, ?_⟩) ?_; rotate_left; (focus ((intro w hSw); (try dsimp only at hSw); go_simp; (try with_reducible rfl))); (try simp only [Act.put, List.getElem_toArray, List.getElem_cons_succ, List.getElem_cons_zero, List.setIfInBounds_toArray, List.set_cons_zero, List.set_cons_succ]))
  refine Can.can_eff rfl rfl (by rfl) (fun K hK => ?_)
  go_simp
  refine (shifted_any a data n _ (HA1.out.up hHeld.2.2.2) hdn (by omega) (by omega)).mono ?_
  rintro e w1 ⟨v1, rfl, hv1, hb1'⟩
  refine hK.out _ _ ⟨cell_up hHeld.1 hb1', cell_up hHeld.2.1 hb1', cell_up hHeld.2.2.1 hb1', bup hHeld.2.2.2 hb1'⟩ (fun hHeld1 => ?_)
  clear hK K
  (try simp only [Act.put, List.getElem_toArray, List.getElem_cons_succ, List.getElem_cons_zero, List.setIfInBounds_toArray, List.set_cons_zero, List.set_cons_succ])
  repeat (refine Can.can_pure (v := ?_) rfl rfl (Or.inl ⟨by rfl, ?_⟩) ?_; rotate_left; (focus ((intro w hSw); (try dsimp only at hSw); go_simp; (try with_reducible rfl))); (try simp only [Act.put, List.getElem_toArray, List.getElem_cons_succ, List.getElem_cons_zero, List.setIfInBounds_toArray, List.set_cons_zero, List.set_cons_succ]))
  refine Can.can_eff rfl rfl (by rfl) (fun K hK => ?_)
  go_simp
  refine (rsGenerator_any F hF h12 hb1 n _ hn4).mono ?_
  rintro e w2 ⟨v2, rfl, hv2, hb2'⟩
  refine hK.out _ _ ⟨cell_up hHeld1.1 hb2', cell_up hHeld1.2.1 hb2', cell_up hHeld1.2.2.1 hb2', bup hHeld1.2.2.2 hb2'⟩ (fun hHeld2 => ?_)
  clear hK K
  (try simp only [Act.put, List.getElem_toArray, List.getElem_cons_succ, List.getElem_cons_zero, List.setIfInBounds_toArray, List.set_cons_zero, List.set_cons_succ])
  repeat (refine Can.can_pure (v := ?_) rfl rfl (Or.inl ⟨by rfl, ?_⟩) ?_; rotate_left; (focus ((intro w hSw); (try dsimp only at hSw); go_simp; (try with_reducible rfl))); (try simp only [Act.put, List.getElem_toArray, List.getElem_cons_succ, List.getElem_cons_zero, List.setIfInBounds_toArray, List.set_cons_zero, List.set_cons_succ]))
  refine Can.can_eff rfl rfl (by rfl) (fun K hK => ?_)
  go_simp
  refine (HRc.out v1 v2 _ (hv1.up hb2').rd hv2.rd).mono ?_
  rintro e w3 ⟨v3, rfl, hv3, hb3'⟩
  refine hK.out _ _ ⟨cell_up hHeld2.1 hb3', cell_up hHeld2.2.1 hb3', cell_up hHeld2.2.2.1 hb3', bup hHeld2.2.2.2 hb3'⟩ (fun hHeld3 => ?_)
  clear hK K
  (try simp only [Act.put, List.getElem_toArray, List.getElem_cons_succ, List.getElem_cons_zero, List.setIfInBounds_toArray, List.set_cons_zero, List.set_cons_succ])
  repeat (refine Can.can_pure (v := ?_) rfl rfl (Or.inl ⟨by rfl, ?_⟩) ?_; rotate_left; (focus ((intro w hSw); (try dsimp only at hSw); go_simp; (try with_reducible rfl))); (try simp only [Act.put, List.getElem_toArray, List.getElem_cons_succ, List.getElem_cons_zero, List.setIfInBounds_toArray, List.set_cons_zero, List.set_cons_succ]))
  refine Can.can_done ?_
  have HB3 := Lib.hid hHeld3.2.2.2
  clear hHeld hHeld1 hHeld2 hHeld3 hv1 hv2 hb1' hb2' hb3' x0 x1 x2 HRc
  have hv3' := hv3
  obtain ⟨A3, c3, rfl, k1, k2, k3⟩ := hv3.rd
  simp only [nv_len] at *
  unfold maxLen at k2
  obtain ⟨b3, o3, rfl, _, _⟩ := k3 hrn
  have HV3 := Lib.hid hv3'; clear hv3' hv3 k3
  have hge0 : (R.length : Int) - (n : Int) ≤ 0 := by omega
  have hmax : max (0 : Int) ((R.length : Int) - (n : Int)) = 0 := by omega
  go_wp2_with (at_builtin; refine list_app_rd _ rfl _ _ 25 rfl w3.heap.size 3 i0 _ 8 Tryz.underlying25 hi0 hz0 hz1 hz2 rfl _ 0 [] rfl (own_empty (Blk.fresh _ _ _) (Nat.le_refl _)) _ _ (nv data) rfl ((HA1.out.up HB3.out).up (bal (brf w3) _)) (nv_one _) (by rw [nv_len]; unfold maxLen; omega) (by rw [nv_len]; omega) (by simp) ?_; intro v4 w4 ho4 hg4)
  have ho4' : w4.ownsRow w3.heap.size 3 1 v4 (data.length + (R.length - R.length)) (nv (data ++ List.replicate (R.length - R.length) 0)) := by
    rw [Nat.sub_self]
    simpa [nv] using ho4
  have HO4 := Lib.hid ho4'
  have HB4 := Lib.hid (below_grown (bal (brf w3) (.cells #[] 3)) hg4 (own_empty (Blk.fresh _ _ _) (Nat.le_refl _)) (by simp))
  clear ho4 hg4 ho4'
  go_wp2_with fail
  go_loopw [8, 9] (fun ov iv wr => ∃ (j : Nat), R.length ≤ j ∧ j ≤ n ∧ iv = .int .i64 j ∧ Hid (wr.ownsRow w3.heap.size 3 1 ov (data.length + (j - R.length)) (nv (data ++ List.replicate (j - R.length) 0))) ∧ Hid (Below w3.heap.size w3 wr)) (fun _ iv _ => n - (intOf iv).toNat)
  case atStart => exact ⟨R.length, Nat.le_refl _, hrl, rfl, HO4, HB4⟩
  case round =>
    clear HO4 HB4
    obtain ⟨j, hj1, hj, rfl, HO, HW⟩ := hrel
    by_cases hlt : j < n
    · have hnx : nv (data ++ List.replicate (j - R.length) 0) ++ [.int .i64 0] = nv (data ++ List.replicate (j + 1 - R.length) 0) := by
        rw [show j + 1 - R.length = (j - R.length) + 1 by omega, List.replicate_succ']
        simp [nv]
      have hsz := HW.out.size
      have hnl : data.length + (j - R.length) + 1 = data.length + (j + 1 - R.length) := by omega
      have HNX := Lib.hid (And.intro hnx hnl); clear hnx hnl
      have hjr : data.length + (j - R.length) + 1 ≤ 8193 := by omega
      go_wp2_with (at_builtin; refine list_app_rd _ rfl _ _ 25 rfl w3.heap.size 3 i0 _ 8 Tryz.underlying25 hi0 hz0 hz1 hz2 rfl _ (data.length + (j - R.length)) (nv (data ++ List.replicate (j - R.length) 0)) rfl (HO.out.alloc _) _ _ [.int .i64 0] rfl (Rd.one rfl 3 (.int .i64 0)) (fun u hu => by rw [List.mem_singleton] at hu; rw [hu]; rfl) (by simp only [List.length_singleton]; unfold maxLen; omega) (by simp only [List.length_singleton]; omega) (Nat.le_trans hsz (by simp)) ?_; intro v5 w5 ho5 hg5)
      have HB5 := Lib.hid (below_grown (bal HW.out (.cells #[.int .i64 0] 3)) hg5 (HO.out.alloc _) (Nat.le_trans hsz (by simp)))
      rw [List.length_singleton, HNX.out.1, HNX.out.2] at ho5
      have HO5 := Lib.hid ho5; clear ho5 hg5
      go_wp2
      go_roundw
      case rel => exact ⟨j + 1, by omega, by omega, by go_num, HO5, HB5⟩
      case measure => simp [intOf]; omega
    · obtain rfl : j = n := by omega
      have hsz := HW.out.size
      go_wp2_with (at_builtin; refine list_app_rd _ rfl _ _ 25 rfl w3.heap.size 3 i0 _ 8 Tryz.underlying25 hi0 hz0 hz1 hz2 rfl _ (data.length + (j - R.length)) (nv (data ++ List.replicate (j - R.length) 0)) rfl HO.out _ _ (nv R) rfl (HV3.out.up HW.out).rd (nv_one _) (by rw [nv_len]; unfold maxLen; omega) (by rw [nv_len]; omega) hsz ?_; intro v5 w5 ho5 hg5)
      have hb5 := below_grown HW.out hg5 HO.out hsz
      go_wp2
      go_ret
      refine ⟨_, rfl, ?_, bup (bup HB0.out HB3.out) hb5⟩
      have := RdT.of_own ho5
      rw [← nv_append, List.append_assoc] at this
      rw [← HER.out]
      exact this

/-! ### laws.rsWords -/
end Go.Proofs.YtopfdmmimgnciaaGreatDoor
namespace Go.Proofs.YtopfdmmimgnciaaGreatDoor
open Go.RowKit

/-- The field of a symbol's words. -/
def fdL (L : Nat) : Gf.Fd := if L ≤ 2 then ⟨67, 6, 1⟩ else if L ≤ 8 then ⟨301, 8, 1⟩ else if L ≤ 22 then ⟨1033, 10, 1⟩ else ⟨4201, 12, 1⟩
theorem clsL (L : Nat) : (widN L = 6 ∧ fdL L = ⟨67, 6, 1⟩ ∧ L ≤ 2) ∨ (widN L = 8 ∧ fdL L = ⟨301, 8, 1⟩ ∧ 2 < L ∧ L ≤ 8) ∨ (widN L = 10 ∧ fdL L = ⟨1033, 10, 1⟩ ∧ 8 < L ∧ L ≤ 22) ∨ (widN L = 12 ∧ fdL L = ⟨4201, 12, 1⟩ ∧ 22 < L) := by
  unfold widN fdL
  by_cases h2 : L ≤ 2
  · left; rw [if_pos h2, if_pos h2]; exact ⟨rfl, rfl, h2⟩
  · right
    rw [if_neg h2, if_neg h2]
    by_cases h8 : L ≤ 8
    · left; rw [if_pos h8, if_pos h8]; exact ⟨rfl, rfl, by omega, h8⟩
    · right
      rw [if_neg h8, if_neg h8]
      by_cases h22 : L ≤ 22
      · left; rw [if_pos h22, if_pos h22]; exact ⟨rfl, rfl, by omega, h22⟩
      · right; rw [if_neg h22, if_neg h22]; exact ⟨rfl, rfl, by omega⟩
theorem fdL_facts (L : Nat) : Gf.Ok (fdL L) ∧ (fdL L).m = widN L ∧ (fdL L).b = 1 ∧ (fdL L).m ≤ 12 := by
  rcases clsL L with ⟨h1, h2, _⟩ | ⟨h1, h2, _⟩ | ⟨h1, h2, _⟩ | ⟨h1, h2, _⟩ <;> rw [h1, h2] <;> exact ⟨Gf.ok_of_mem (by simp [Gf.fields]), rfl, rfl, by decide⟩
theorem fdL_s (L : Nat) : (fdL L).s = 2 ^ widN L := by
  have h := (fdL_facts L).2.1
  unfold Gf.Fd.s
  rw [h]
/-- How many bits a symbol's layers have. -/
def capN (c : Bool) (L : Nat) : Nat := ((if c then 88 else 112) + 16 * L) * L
theorem capN_all : ∀ L, L < 33 → 0 < L → (∀ c, c = true ∨ c = false → capN c L / widN L < 2 ^ widN L ∧ capN c L ≤ 19968 ∧ capN c L / widN L ≤ 1664 ∧ 8 ≤ capN c L / widN L) := by
  intro L hL h0 c hc
  have h : ∀ L, L < 33 → 0 < L → (capN true L / widN L < 2 ^ widN L ∧ capN true L ≤ 19968 ∧ capN true L / widN L ≤ 1664 ∧ 8 ≤ capN true L / widN L) ∧ (capN false L / widN L < 2 ^ widN L ∧ capN false L ≤ 19968 ∧ capN false L / widN L ≤ 1664 ∧ 8 ≤ capN false L / widN L) := by decide +kernel
  rcases hc with rfl | rfl
  · exact (h L hL h0).1
  · exact (h L hL h0).2
theorem azWidth_any (L : Nat) (w : World) (h : L ≤ 32) : Calls Tryz.prog 9 #[.int .i64 L] w fun e w' => e = .returned (.int .i64 (widN L : Nat)) ∧ w' = w := by
  rcases clsL L with ⟨h1, _, h2⟩ | ⟨h1, _, h2, h3⟩ | ⟨h1, _, h2, h3⟩ | ⟨h1, _, h2⟩
  all_goals
    rw [h1]
    clear h1
    go_enter Tryz.func9, Tryz.ntmps9
    go_wp2
    go_ret
    exact ⟨rfl, rfl⟩
theorem azBits_any (c : Bool) (L : Nat) (w : World) (h : L ≤ 32) : Calls Tryz.prog 14 #[.bool c, .int .i64 L] w fun e w' => e = .returned (.int .i64 (capN c L : Nat)) ∧ w' = w := by
  obtain ⟨s, hs⟩ : ∃ s, s = 16 * L := ⟨_, rfl⟩
  have e1 : (16 : Int) * (L : Int) = (s : Int) := by omega
  have hs2 : s ≤ 512 := by omega
  cases c
  · obtain ⟨a, ha⟩ : ∃ a, a = 112 + s := ⟨_, rfl⟩
    have e2 : (112 : Int) + (s : Int) = (a : Int) := by omega
    have e3 : (a : Int) * (L : Int) = (capN false L : Int) := by unfold capN; rw [ha, hs]; simp
    have hc : capN false L ≤ 624 * 32 := by unfold capN; exact Nat.mul_le_mul (by simp; omega) h
    have ha2 : a ≤ 624 := by omega
    generalize capN false L = cap at *
    clear hs ha
    go_enter Tryz.func14, Tryz.ntmps14
    go_wp2
    go_ret
    exact ⟨rfl, rfl⟩
  · obtain ⟨a, ha⟩ : ∃ a, a = 88 + s := ⟨_, rfl⟩
    have e2 : (88 : Int) + (s : Int) = (a : Int) := by omega
    have e3 : (a : Int) * (L : Int) = (capN true L : Int) := by unfold capN; rw [ha, hs]; simp
    have hc : capN true L ≤ 600 * 32 := by unfold capN; exact Nat.mul_le_mul (by simp; omega) h
    have ha2 : a ≤ 600 := by omega
    generalize capN true L = cap at *
    clear hs ha
    go_enter Tryz.func14, Tryz.ntmps14
    go_wp2
    go_ret
    exact ⟨rfl, rfl⟩
set_option maxRecDepth 100000 in
theorem azField_any (L : Nat) (w : World) : Calls Tryz.prog 8 #[.int .i64 (widN L : Nat)] w fun e w' => e = .returned (.agg #[.int .i64 (fdL L).p, .int .i64 (fdL L).s, .int .i64 (fdL L).b]) ∧ Below w.heap.size w w' := by
  rcases clsL L with ⟨h1, h2, _⟩ | ⟨h1, h2, _⟩ | ⟨h1, h2, _⟩ | ⟨h1, h2, _⟩
  · rw [h1, h2]
    clear h1 h2
    have hk := Blk.fresh w 30 #[.int .i64 67, .int .i64 64, .int .i64 1]
    have q0 : (w.alloc (.cells #[.int .i64 67, .int .i64 64, .int .i64 1] 30)).cell? ⟨w.heap.size, 0, none⟩ = some (.int .i64 67) := by rw [hk.cell]; rfl
    have q1 : (w.alloc (.cells #[.int .i64 67, .int .i64 64, .int .i64 1] 30)).cell? ⟨w.heap.size, 1, none⟩ = some (.int .i64 64) := by rw [hk.cell]; rfl
    have q2 : (w.alloc (.cells #[.int .i64 67, .int .i64 64, .int .i64 1] 30)).cell? ⟨w.heap.size, 2, none⟩ = some (.int .i64 1) := by rw [hk.cell]; rfl
    clear hk
    go_enter Tryz.func8, Tryz.ntmps8
    go_wp2
    refine bodyPost_ret (v := .agg #[.int .i64 67, .int .i64 64, .int .i64 1]) (by simp [results, loadVar]; go_simp; first | done | simp [q0, q1, q2]) rfl ?_
    exact ⟨rfl, bal (brf w) _⟩
  · rw [h1, h2]
    clear h1 h2
    have hk := Blk.fresh w 30 #[.int .i64 301, .int .i64 256, .int .i64 1]
    have q0 : (w.alloc (.cells #[.int .i64 301, .int .i64 256, .int .i64 1] 30)).cell? ⟨w.heap.size, 0, none⟩ = some (.int .i64 301) := by rw [hk.cell]; rfl
    have q1 : (w.alloc (.cells #[.int .i64 301, .int .i64 256, .int .i64 1] 30)).cell? ⟨w.heap.size, 1, none⟩ = some (.int .i64 256) := by rw [hk.cell]; rfl
    have q2 : (w.alloc (.cells #[.int .i64 301, .int .i64 256, .int .i64 1] 30)).cell? ⟨w.heap.size, 2, none⟩ = some (.int .i64 1) := by rw [hk.cell]; rfl
    clear hk
    go_enter Tryz.func8, Tryz.ntmps8
    go_wp2
    refine bodyPost_ret (v := .agg #[.int .i64 301, .int .i64 256, .int .i64 1]) (by simp [results, loadVar]; go_simp; first | done | simp [q0, q1, q2]) rfl ?_
    exact ⟨rfl, bal (brf w) _⟩
  · rw [h1, h2]
    clear h1 h2
    have hk := Blk.fresh w 30 #[.int .i64 1033, .int .i64 1024, .int .i64 1]
    have q0 : (w.alloc (.cells #[.int .i64 1033, .int .i64 1024, .int .i64 1] 30)).cell? ⟨w.heap.size, 0, none⟩ = some (.int .i64 1033) := by rw [hk.cell]; rfl
    have q1 : (w.alloc (.cells #[.int .i64 1033, .int .i64 1024, .int .i64 1] 30)).cell? ⟨w.heap.size, 1, none⟩ = some (.int .i64 1024) := by rw [hk.cell]; rfl
    have q2 : (w.alloc (.cells #[.int .i64 1033, .int .i64 1024, .int .i64 1] 30)).cell? ⟨w.heap.size, 2, none⟩ = some (.int .i64 1) := by rw [hk.cell]; rfl
    clear hk
    go_enter Tryz.func8, Tryz.ntmps8
    go_wp2
    refine bodyPost_ret (v := .agg #[.int .i64 1033, .int .i64 1024, .int .i64 1]) (by simp [results, loadVar]; go_simp; first | done | simp [q0, q1, q2]) rfl ?_
    exact ⟨rfl, bal (brf w) _⟩
  · rw [h1, h2]
    clear h1 h2
    have hk := Blk.fresh w 30 #[.int .i64 4201, .int .i64 4096, .int .i64 1]
    have q0 : (w.alloc (.cells #[.int .i64 4201, .int .i64 4096, .int .i64 1] 30)).cell? ⟨w.heap.size, 0, none⟩ = some (.int .i64 4201) := by rw [hk.cell]; rfl
    have q1 : (w.alloc (.cells #[.int .i64 4201, .int .i64 4096, .int .i64 1] 30)).cell? ⟨w.heap.size, 1, none⟩ = some (.int .i64 4096) := by rw [hk.cell]; rfl
    have q2 : (w.alloc (.cells #[.int .i64 4201, .int .i64 4096, .int .i64 1] 30)).cell? ⟨w.heap.size, 2, none⟩ = some (.int .i64 1) := by rw [hk.cell]; rfl
    clear hk
    go_enter Tryz.func8, Tryz.ntmps8
    go_wp2
    refine bodyPost_ret (v := .agg #[.int .i64 4201, .int .i64 4096, .int .i64 1]) (by simp [results, loadVar]; go_simp; first | done | simp [q0, q1, q2]) rfl ?_
    exact ⟨rfl, bal (brf w) _⟩
set_option maxRecDepth 100000 in
set_option maxHeartbeats 4000000 in
theorem azSymbol_any (v : Value) (D : List Nat) (c : Bool) (L : Nat) (w : World) (hv : RdT w 3 v (nv D)) (hD : ∀ x ∈ D, x < 2 ^ widN L) (hl : D.length ≤ 100000) (h1 : 1 ≤ L) (h2 : L ≤ 32) :
    Calls Tryz.prog 19 #[v, .bool c, .int .i64 L] w fun e w' => Below w.heap.size w w' ∧
      ((0 < D.length ∧ D.length + 2 ≤ capN c L / widN L ∧ ∃ v', e = .returned (.tuple #[v', .bool true]) ∧ RdT w' 3 v' (nv (Gf.enc (fdL L) (capN c L / widN L - D.length) D))) ∨
       (¬ (0 < D.length ∧ D.length + 2 ≤ capN c L / widN L) ∧ e = .returned (.tuple #[.slice none 0 0, .bool false]))) := by
  have hWd := azWidth_any L w h2
  have hCp := fun w' => azBits_any c L w' h2
  have hFd := fun w' => azField_any L w'
  obtain ⟨c1, c2, c3, c4⟩ := capN_all L (by omega) h1 c (by cases c <;> simp)
  obtain ⟨hF, hFm, hFb, hF12⟩ := fdL_facts L
  have hwd := widN_le L
  rw [← fdL_s] at hD c1
  obtain ⟨wd, hwdv⟩ : ∃ x, x = widN L := ⟨_, rfl⟩
  obtain ⟨cap, hcapv⟩ : ∃ x, x = capN c L := ⟨_, rfl⟩
  rw [← hwdv] at hWd hwd hFd hFm c1 c3 c4 ⊢
  rw [← hcapv] at hCp c1 c2 c3 c4 ⊢
  clear hwdv hcapv
  obtain ⟨al, hal⟩ : ∃ x, x = cap / wd := ⟨_, rfl⟩
  rw [← hal] at c1 c3 c4 ⊢
  have t1 : Int.tdiv (cap : Int) (wd : Int) = (al : Int) := by rw [Int.tdiv_eq_ediv_of_nonneg (by omega), hal]; simp
  have t2 : (cap : Int) / (wd : Int) = (al : Int) := by rw [hal]; simp
  have t3 : ¬ ((wd : Int) = 0) := by omega
  have HRS := Lib.hid (fun w' (ha : Rd w' w'.heap.size v (nv D)) (h0 : 0 < D.length) (hn : D.length + 2 ≤ al) => rsEncode_any (fdL L) hF hF12 (by omega) v D (al - D.length) w' ha hD h0 (by omega) (by omega) (by omega))
  generalize fdL L = F at *
  have HV := Lib.hid hv
  obtain ⟨A, cp, rfl, k1, k2, -⟩ := hv
  have hnl : (nv D).length = D.length := by simp [nv]
  rw [hnl] at k1 HV HRS ⊢
  unfold maxLen at k2
  clear hD hnl hal c1 hF hFm hFb hF12
  by_cases hok : 0 < D.length ∧ D.length + 2 ≤ al
  · obtain ⟨m, hm⟩ : ∃ x, x = al - D.length := ⟨_, rfl⟩
    have e1 : (al : Int) - (D.length : Int) = (m : Int) := by omega
    obtain ⟨o1, o2⟩ := hok
    have hne : ((D.length : Int) == 0) = false := by rw [beq_eq_false_iff_ne]; omega
    have hne2 : decide ((al : Int) < (D.length : Int) + 2) = false := decide_eq_false (by omega)
    have hrs := HRS.out
    rw [← hm] at hrs ⊢
    have HRS2 := Lib.hid hrs
    clear hrs HRS hm
    go_enter Tryz.func19, Tryz.ntmps19
    go_wp2_with fail
    refine hWd.mono ?_
    rintro e w0 ⟨rfl, rfl⟩
    clear hWd
    go_wp2_with fail
    refine (hCp _).mono ?_
    rintro e w1 ⟨rfl, rfl⟩
    clear hCp
    go_wp2_with fail
    refine (hFd _).mono ?_
    rintro e w2 ⟨rfl, hb2⟩
    have HB2 := Lib.hid hb2
    have hrs := HRS2.out w2 (HV.out.up hb2).rd o1 o2
    clear hFd hb2
    go_wp2_with fail
    refine hrs.mono ?_
    rintro e w3 ⟨v3, rfl, hv3, hb3⟩
    have HV3 := Lib.hid hv3
    have HB3 := Lib.hid (bup HB2.out hb3)
    clear hrs hv3 hb3
    go_wp2_with fail
    go_ret2
    exact ⟨HB3.out, .inl ⟨o1, o2, v3, rfl, HV3.out⟩⟩
  · go_enter Tryz.func19, Tryz.ntmps19
    go_wp2_with fail
    refine hWd.mono ?_
    rintro e w0 ⟨rfl, rfl⟩
    clear hWd
    go_wp2_with fail
    refine (hCp _).mono ?_
    rintro e w1 ⟨rfl, rfl⟩
    clear hCp
    by_cases h0 : D.length = 0
    · have h0i : ((D.length : Int) == 0) = true := by rw [h0]; rfl
      go_wp2_with fail
      go_ret2
      exact ⟨brf _, .inr ⟨hok, rfl⟩⟩
    · have h3 : ¬ D.length + 2 ≤ al := fun h => hok ⟨by omega, h⟩
      have hp : 0 < D.length := by omega
      have hne : ((D.length : Int) == 0) = false := by rw [beq_eq_false_iff_ne]; omega
      have hne2 : decide ((al : Int) < (D.length : Int) + 2) = true := decide_eq_true (by omega)
      have HOK := Lib.hid hok
      clear hok
      go_wp2_with fail
      go_ret2
      exact ⟨brf _, .inr ⟨HOK.out, rfl⟩⟩
end Go.Proofs.YtopfdmmimgnciaaGreatDoor
namespace Go.Proofs.YtopfdmmimgnciaaGreatDoor
open Go.RowKit

theorem byteBits_lenZ (l : List UInt8) : (byteBits l).length = 8 * l.length := by
  induction l with
  | nil => rfl
  | cons b l ih =>
    have : byteBits (b :: l) = putL b.toNat 8 ++ byteBits l := by simp [byteBits]
    rw [this, List.length_append, putL_len, ih, List.length_cons]; omega
theorem wOne_len (m k n : Nat) (r : List Nat) : (wOne m k n r).1.length ≤ 600 := by
  have hs := sizeT_two (rm m)
  unfold wOne
  split
  · simp only [putL_len]; omega
  · split
    · simp only [List.length_append, putL_len]; omega
    · split
      · simp only [List.length_append, putL_len]
        split <;> simp only [putL_len] <;> omega
      · split
        · split
          · simp
          · simp only [List.length_append, byteBits_lenZ, List.length_map, List.length_take]
            have h1 := headL_le2 (min (n % 70) r.length)
            have h2 := Nat.mod_lt n (show 0 < 70 by decide)
            omega
        · simp only [putL_len]; omega
theorem wAll_len : ∀ (f : Nat) (code : List Nat) (m : Nat), (wAll f code m).1.length ≤ 600 * f
  | 0, _, _ => by unfold wAll; simp
  | f + 1, [], _ => by unfold wAll; simp
  | f + 1, [k], _ => by unfold wAll; simp
  | f + 1, k :: n :: r, m => by
    have h1 := wOne_len m k n r
    have h2 := wAll_len f r (wOne m k n r).2.1
    unfold wAll
    simp only [List.length_append]
    omega
theorem stuff_len (W : Nat) (hW : 3 ≤ W) : ∀ (f : Nat) (bits : List Bool), (stuffF W f bits).length ≤ bits.length
  | 0, _ => by unfold stuffF; simp
  | f + 1, bits => by
    unfold stuffF
    split
    · simp
    · rename_i h
      have h1 := stuff_len W hW f (bits.drop (W - 1))
      have h2 := stuff_len W hW f (bits.drop W)
      rw [List.length_drop] at h1 h2
      split
      · rw [List.length_cons]; omega
      · split <;> rw [List.length_cons] <;> omega
/-- The words of data of a message. -/
def dataN (L : Nat) (code : List Nat) : List Nat := stuffF (widN L) (wAll 150 code 0).1.length (wAll 150 code 0).1
theorem dataN_len (L : Nat) (code : List Nat) : (dataN L code).length ≤ 90000 := by
  have h1 := wAll_len 150 code 0
  have h2 := stuff_len (widN L) (by have := widN_le L; omega) (wAll 150 code 0).1.length (wAll 150 code 0).1
  unfold dataN; omega
theorem dataN_ok (L : Nat) (code : List Nat) : (∃ k, k < widN L ∧ unL (widN L) (dataN L code) = (wAll 150 code 0).1 ++ List.replicate k true) ∧ ∀ x ∈ dataN L code, 1 ≤ x ∧ x < 2 ^ widN L - 1 :=
  stuff_says (widN L) (by have := widN_le L; omega) _ _ (Nat.le_refl _)
set_option maxRecDepth 100000 in
set_option maxHeartbeats 2000000 in
theorem symbol_any (v : Value) (code : List Nat) (c : Bool) (L : Nat) (w : World) (hv : Rd w w.heap.size v (nb code)) (hc : ∀ x ∈ code, x < 256) (h1 : 1 ≤ L) (h2 : L ≤ 32) :
    Calls Tryz.prog 6 #[v, .bool c, .int .i64 L] w fun e w' => ∃ u b, e = .returned (.tuple #[u, .int .i64 ((dataN L code).length : Nat), .string (ofL (wAll 150 code 0).2.2), .bool b]) ∧ Below w.heap.size w w' ∧
      (b = true → 0 < (dataN L code).length ∧ (dataN L code).length + 2 ≤ capN c L / widN L ∧ RdT w' 3 u (nv (Gf.enc (fdL L) (capN c L / widN L - (dataN L code).length) (dataN L code)))) := by
  have hW := write_any v code w hv hc
  have hlen := wAll_len 150 code 0
  have hWd := fun wq => azWidth_any L wq h2
  have hor := widN_or L
  have hSt := fun u wq h => azStuff_any (widN L) hor u (wAll 150 code 0).1 wq h (by omega)
  have hDl := dataN_len L code
  have hDx := (dataN_ok L code).2
  have hSy := fun u wq h => azSymbol_any u (dataN L code) c L wq h (fun x hx => by have := hDx x hx; omega) (by omega) h1 h2
  rw [show stuffF (widN L) (wAll 150 code 0).1.length (wAll 150 code 0).1 = dataN L code from rfl] at hSt
  have HSt := Lib.hid hSt
  have HSy := Lib.hid hSy
  obtain ⟨A, ca, rfl, -, ha2, -⟩ := hv
  rw [nb_len] at hW ⊢
  unfold maxLen at ha2
  generalize (wAll 150 code 0).2.2 = txt at *
  generalize (wAll 150 code 0).1 = bits at *
  generalize dataN L code = D at *
  clear hSt hSy hDx hlen hor
  go_enter Tryz.func6, Tryz.ntmps6
  go_wp2_with fail
  refine hW.mono ?_
  rintro e w1 ⟨u1, rfl, hr1, hb1⟩
  have HR1 := Lib.hid hr1
  have HB1 := Lib.hid hb1
  clear hW hr1 hb1
  go_wp2_with fail
  refine (hWd _).mono ?_
  rintro e w1 ⟨rfl, rfl⟩
  clear hWd
  go_wp2_with fail
  refine (HSt.out u1 _ HR1.out).mono ?_
  rintro e w2 ⟨u2, rfl, hr2, hb2⟩
  have hf2 := hr2.rd.form
  have hnl : (nv D).length = D.length := by simp [nv]
  obtain ⟨A2, c2, rfl, -, hc2⟩ := hf2
  rw [hnl] at hr2 ⊢
  have HR2 := Lib.hid hr2
  have HB2 := Lib.hid (bup HB1.out hb2)
  clear HSt hr2 hb2 HR1 HB1
  go_wp2_with fail
  refine (HSy.out _ _ HR2.out).mono ?_
  rintro e w3 ⟨hb3, h | h⟩
  · obtain ⟨k1, k2, u3, rfl, hr3⟩ := h
    have HF := Lib.hid (And.intro (bup HB2.out hb3) (And.intro k1 (And.intro k2 hr3)))
    clear HSy hb3 hr3 HB2 HR2 k1 k2
    go_wp2_with fail
    go_returns
    exact ⟨u3, true, rfl, HF.out.1, fun _ => HF.out.2⟩
  · obtain ⟨-, rfl⟩ := h
    have HF := Lib.hid (bup HB2.out hb3)
    clear HSy hb3 HB2 HR2
    go_wp2_with fail
    go_returns
    exact ⟨_, false, rfl, HF.out, fun h => by cases h⟩
end Go.Proofs.YtopfdmmimgnciaaGreatDoor
