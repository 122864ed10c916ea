/-
  WALKS: the division of two polynomials.
-/
import Derived.Test.YtneojmkccgjcgaaRe2
import Derived.Deep.LoopGhost
namespace Go.Proofs.Ytneojmkccgjcgaa
open Go.RowKit

/-- What a division hands back. -/
def Divided (w : World) (g : Nat) (r : List Nat) (e : Ending) (w' : World) : Prop :=
  ∃ q1 q2, e = .returned (.tuple #[.pointer (some ⟨q1, 0, none⟩), .pointer (some ⟨q2, 0, none⟩), .nilIface]) ∧ PolyAt w' q2 g r ∧ Below w.heap.size w w'

set_option maxRecDepth 100000 in
set_option maxHeartbeats 8000000 in
theorem divide_any (F : Gf.Fd) (hF : Gf.Ok F) (h12 : F.m ≤ 12) (g q1 q2 fuel : Nat) (xs ys : List Nat) (w : World) (hf : FieldAt w g F) (hp1 : PolyAt w q1 g xs) (hp2 : PolyAt w q2 g ys)
    (hx : ∀ x ∈ xs, x < F.s) (hy : ∀ y ∈ ys, y < F.s) (hxt : Tidy xs) (hyt : Tidy ys) (hy0 : ys.getD 0 0 ≠ 0) (hx4 : xs.length ≤ 8192) (hy4 : ys.length ≤ 8192) (hfu : xs.length ≤ fuel) :
    Calls Try.prog 50 #[.pointer (some ⟨q1, 0, none⟩), .pointer (some ⟨q2, 0, none⟩)] w (Divided w g (Gf.rest F ys fuel xs)) := by
  have hs12 := s_le F h12
  have hxn : 0 < xs.length := by rcases xs with _ | ⟨x, r⟩; exact absurd rfl hxt.1; simp
  have hyn : 0 < ys.length := by rcases ys with _ | ⟨x, r⟩; exact absurd rfl hyt.1; simp
  have hne := fun W => run_neq_self (P := Try.prog) (⟨g, 0, none⟩ : Addr) Try.underlying50 (by kernel_rfl) W
  obtain ⟨sx, kx, vx⟩ := id hp1
  obtain ⟨sy, ky, vy⟩ := id hp2
  have x0 : w.cell? ⟨q1, 0, none⟩ = some (.pointer (some ⟨g, 0, none⟩)) := by rw [kx.cell]; rfl
  have y0 : w.cell? ⟨q2, 0, none⟩ = some (.pointer (some ⟨g, 0, none⟩)) := by rw [ky.cell]; rfl
  clear kx ky vx vy
  obtain ⟨dy, hdy⟩ : ∃ dy, ys.length = dy + 1 := ⟨ys.length - 1, by omega⟩
  have hlead : ys.getD (ys.length - 1 - dy) 0 = ys.getD 0 0 := by rw [hdy]; simp
  have hl0 : ys.getD 0 0 < F.s := by rw [getD_lt _ _ _ hyn]; exact hy _ (List.getElem_mem hyn)
  have hlp : 0 < ys.getD 0 0 := by omega
  have HY0 := Lib.hid hy0; clear hy0
  obtain ⟨y0v, hy0v⟩ : ∃ y0v, y0v = ys.getD 0 0 := ⟨_, rfl⟩
  rw [← hy0v] at hlead hl0 hlp
  have hdy8 : dy < 8192 := by omega
  have HDY := Lib.hid (And.intro hdy hlead); clear hdy hlead
  have HX := Lib.hid hx; clear hx
  have HY := Lib.hid hy; clear hy
  have HT := Lib.hid (And.intro hxt hyt); clear hxt hyt
  have HF := Lib.hid hf; clear hf
  have HP1 := Lib.hid hp1; clear hp1
  have HP2 := Lib.hid hp2; clear hp2
  have HR := Lib.hid (rfl : Gf.rest F ys fuel xs = Gf.rest F ys fuel xs)
  generalize hR : Gf.rest F ys fuel xs = R
  rw [hR] at HR
  have HR2 : Hid (Gf.rest F ys fuel xs = R) := Lib.hid hR
  clear HR hR
  have HYV := Lib.hid hy0v; clear hy0v
  go_enter Try.func50, Try.ntmps50
  go_wp2
  go_quiet (fail)
  clear hne
  go_wp2_with fail
  refine (isZero_no q2 g ys (w.drewN nq) HP2.out HT.out.2.1 HY0.out).mono ?_
  rintro e w1 ⟨rfl, rfl⟩
  go_wp2_with fail
  refine (getZero_any g F (w.drewN nq) (HF.out.up (bdn (brf w) nq))).mono ?_
  rintro e w1 ⟨qz, rfl, hqz, rfl⟩
  have HQZ := Lib.hid hqz; clear hqz
  go_wp2_with fail
  refine (degree_any q2 g ys dy (w.drewN nq) HP2.out HDY.out.1).mono ?_
  rintro e w1 ⟨rfl, rfl⟩
  go_wp2_with fail
  refine (coefficient_any q2 g ys dy (w.drewN nq) HP2.out (by rw [HDY.out.1]; omega)).mono ?_
  rintro e w1 ⟨rfl, hb1⟩
  rw [HDY.out.2]
  have x01 : w1.cell? ⟨q1, 0, none⟩ = some (.pointer (some ⟨g, 0, none⟩)) := cell_up x0 (bup (bdn (brf w) _) hb1)
  have HB1 := Lib.hid (bup (bdn (brf w) _) hb1); clear hb1
  go_wp2_with fail
  refine (inverse_any g F hF h12 y0v hlp hl0 _ (HF.out.up HB1.out)).mono ?_
  rintro e w2 ⟨rfl, hb2⟩
  have HB2 := Lib.hid (bup HB1.out hb2); clear hb2
  have hinv : Gf.inv F y0v < F.s := Gf.inv_lt hF _
  obtain ⟨iv, hiv⟩ : ∃ iv, iv = Gf.inv F y0v := ⟨_, rfl⟩
  rw [← hiv] at hinv ⊢
  have HIV := Lib.hid hiv; clear hiv
  have HQ2 := Lib.hid (HQZ.out.up (w' := w2) (by
    have h := HB2.out
    exact ⟨h.os, h.tape, h.output, h.size, h.block⟩)); clear HQZ
  clear x01 HB1
  go_wp2_with fail
  go_loopg [4, 5] fuel (fun k v4 v5 wr => ∃ (a b : Nat) (qs r : List Nat), v4 = .pointer (some ⟨a, 0, none⟩) ∧ v5 = .pointer (some ⟨b, 0, none⟩) ∧ Hid (PolyAt wr a g qs) ∧ Hid (PolyAt wr b g r) ∧ qs.length ≤ 8192 ∧ r.length ≤ 8192 ∧
    Hid (Tidy qs) ∧ Hid (Tidy r) ∧ Hid (∀ x ∈ qs, x < F.s) ∧ Hid (∀ x ∈ r, x < F.s) ∧ Hid (Gf.mes r ≤ k) ∧ Hid (Gf.rest F ys k r = R) ∧ Hid (Below w.heap.size w wr))
  case atStart =>
    refine ⟨qz, q1, [0], xs, rfl, rfl, HQ2, Lib.hid (HP1.out.up HB2.out), by decide, hx4, Lib.hid ⟨by simp, .inl rfl⟩, Lib.hid HT.out.1, Lib.hid (fun x hx => ?_), HX, Lib.hid (Nat.le_trans (Gf.mes_le xs) hfu), HR2, HB2⟩
    have := Gf.s_pos F; simp at hx; omega
  case round =>
    obtain ⟨a, b, qs, r, rfl, rfl, HPQ, HPR, hq8, hr8, HTQ, HTR, HLQ, HLR, HM, HRE, HW⟩ := hrel
    have hrn : 0 < r.length := by
      have := HTR.out.1
      rcases r with _ | ⟨x, t⟩
      · exact absurd rfl this
      · simp
    obtain ⟨dr, hdr⟩ : ∃ dr, r.length = dr + 1 := ⟨r.length - 1, by omega⟩
    have hdr8 : dr < 8192 := by omega
    have HDR := Lib.hid hdr; clear hdr
    have HPY := Lib.hid (HP2.out.up HW.out)
    have y0r : wr.cell? ⟨q2, 0, none⟩ = some (.pointer (some ⟨g, 0, none⟩)) := cell_up y0 HW.out
    have x0r : wr.cell? ⟨q1, 0, none⟩ = some (.pointer (some ⟨g, 0, none⟩)) := cell_up x0 HW.out
    by_cases hlt : dy ≤ dr
    · obtain ⟨k, hk⟩ : ∃ k : Nat, (dr : Int) - (dy : Int) = (k : Int) := ⟨dr - dy, by omega⟩
      have hk8 : k ≤ 8191 := by omega
      by_cases hz : r.getD 0 0 = 0
      · have hr0 := tidy_zero HTR.out hz
        have HE : Hid (r = R) := Lib.hid (by rw [← HRE.out, hr0, Gf.rest_zero])
        clear hr0
        have HZ := Lib.hid hz; clear hz
        clear hk
        go_wp2_with fail
        refine (degree_any b g r dr wr HPR.out HDR.out).mono ?_
        rintro e wr ⟨rfl, rfl⟩
        go_wp2_with fail
        refine (degree_any q2 g ys dy wr HPY.out HDY.out.1).mono ?_
        rintro e wr ⟨rfl, rfl⟩
        go_wp2_with fail
        refine (isZero_yes b g r wr HPR.out HTR.out.1 HZ.out).mono ?_
        rintro e wr ⟨rfl, rfl⟩
        go_wp2
        go_ret3
        exact ⟨a, b, rfl, by rw [← HE.out]; exact HPR.out, HW.out⟩
      · have hrne : r ≠ [0] := fun h0 => hz (by rw [h0]; rfl)
        have hle : ys.length ≤ r.length := by rw [HDY.out.1, HDR.out]; omega
        have hmes := Gf.restStep_mes hF HY.out HLR.out hyn HY0.out HTR.out hle hrne
        have hmr : Gf.mes r = r.length := by unfold Gf.mes; rw [if_neg hrne]
        obtain ⟨n, hn⟩ : ∃ n, gk = n + 1 := ⟨gk - 1, by have := HM.out; omega⟩
        have HNx : Hid (Gf.rest F ys n (Gf.restStep F ys r) = R) := Lib.hid (by rw [← Gf.rest_step F ys n r hle hrne, ← hn]; exact HRE.out)
        have HMx : Hid (Gf.mes (Gf.restStep F ys r) ≤ n) := Lib.hid (by have := HM.out; omega)
        have hgn : n < gk := by omega
        have HTx : Hid (Tidy (Gf.restStep F ys r)) := Lib.hid (Gf.restStep_tidy HTR.out.1)
        have HLx : Hid (∀ x ∈ Gf.restStep F ys r, x < F.s) := Lib.hid (Gf.restStep_lt hF HY.out HLR.out)
        have hrx8 : (Gf.restStep F ys r).length ≤ 8192 := by omega
        have hcl := Gf.lead_lt hF ys HLR.out hrn
        have hcp := Gf.lead_pos (b := ys) hF HTR.out HLR.out hrne
        have hr0l : r.getD 0 0 < F.s := by rw [getD_lt _ _ _ hrn]; exact HLR.out _ (List.getElem_mem hrn)
        have hlead : r.getD (r.length - 1 - dr) 0 = r.getD 0 0 := by rw [HDR.out]; simp
        have hkn : r.length - ys.length = k := by rw [HDR.out, HDY.out.1]; omega
        have hstep : Gf.restStep F ys r = tidy (Gf.padd r (tidy (Gf.scaled F ys (Gf.lead F ys r) ++ List.replicate k 0))) := by unfold Gf.restStep Gf.term; rw [hkn]
        have hld : Gf.lead F ys r = Gf.mul F (r.getD 0 0) iv := by rw [HIV.out, HYV.out]; rfl
        obtain ⟨r0, hr0e⟩ : ∃ r0, r0 = r.getD 0 0 := ⟨_, rfl⟩
        rw [← hr0e] at hld hlead hr0l
        obtain ⟨c, hc⟩ : ∃ c, c = Gf.lead F ys r := ⟨_, rfl⟩
        rw [← hc] at hcl hcp hstep hld
        have HST := Lib.hid (And.intro hstep (And.intro hld hlead)); clear hstep hld hlead hc hr0e hmes hmr hn hkn hrne
        have HZ := Lib.hid hz; clear hz
        clear HM HRE
        go_wp2_with fail
        refine (degree_any b g r dr wr HPR.out HDR.out).mono ?_
        rintro e wr ⟨rfl, rfl⟩
        go_wp2_with fail
        refine (degree_any q2 g ys dy wr HPY.out HDY.out.1).mono ?_
        rintro e wr ⟨rfl, rfl⟩
        go_wp2_with fail
        refine (isZero_no b g r wr HPR.out HTR.out.1 HZ.out).mono ?_
        rintro e wr ⟨rfl, rfl⟩
        go_wp2_with fail
        refine (degree_any b g r dr wr HPR.out HDR.out).mono ?_
        rintro e wr ⟨rfl, rfl⟩
        go_wp2_with fail
        refine (degree_any q2 g ys dy wr HPY.out HDY.out.1).mono ?_
        rintro e wr ⟨rfl, rfl⟩
        go_wp2_with fail
        refine Can.wp_region_can (fun w' => w'.cell? ⟨q1, 0, none⟩ = some (.pointer (some ⟨g, 0, none⟩)) ∧ Below wr.heap.size wr w') 999 [0, 1, 2, 3, 4, 5, 8, 6, 7, 9, 10] (by kernel_rfl) (by kernel_rfl) (fun _ _ d _ _ h => by cases d <;> exact h) ⟨x0r, bdr (brf _)⟩ (fun hHeld => ?_)
        repeat (refine Can.can_pure (v := ?_) rfl rfl (Or.inl ⟨by rfl, ?_⟩) ?_; rotate_left; (focus ((intro w hSw); (try dsimp only at hSw); go_simp; (try with_reducible rfl))); (try simp only [Act.put, List.setIfInBounds_toArray, List.set_cons_zero, List.set_cons_succ]))
        refine Can.can_eff rfl rfl (by rfl) (fun K hK => ?_)
        go_simp
        refine (degree_any b g r dr _ (HPR.out.up hHeld.2) HDR.out).mono ?_
        rintro e w8 ⟨rfl, rfl⟩
        refine hK.out _ _ hHeld (fun hHeld1 => ?_)
        clear hK K
        (try simp only [Act.put, List.setIfInBounds_toArray, List.set_cons_zero, List.set_cons_succ])
        repeat (refine Can.can_pure (v := ?_) rfl rfl (Or.inl ⟨by rfl, ?_⟩) ?_; rotate_left; (focus ((intro w hSw); (try dsimp only at hSw); go_simp; (try with_reducible rfl))); (try simp only [Act.put, List.setIfInBounds_toArray, List.set_cons_zero, List.set_cons_succ]))
        refine Can.can_eff rfl rfl (by rfl) (fun K hK => ?_)
        go_simp
        refine (coefficient_any b g r dr _ (HPR.out.up hHeld1.2) (by rw [HDR.out]; omega)).mono ?_
        rintro e w9 ⟨rfl, hb9⟩
        refine hK.out _ _ ⟨cell_up hHeld1.1 hb9, bup hHeld1.2 hb9⟩ (fun hHeld2 => ?_)
        clear hK K
        (try simp only [Act.put, List.setIfInBounds_toArray, List.set_cons_zero, List.set_cons_succ])
        rw [HST.out.2.2]
        repeat (refine Can.can_pure (v := ?_) rfl rfl (Or.inl ⟨by rfl, ?_⟩) ?_; rotate_left; (focus ((intro w hSw); (try dsimp only at hSw); go_simp; (try with_reducible rfl))); (try simp only [Act.put, List.setIfInBounds_toArray, List.set_cons_zero, List.set_cons_succ]))
        refine Can.can_eff rfl rfl (by rfl) (fun K hK => ?_)
        go_simp
        refine (mulGF_any g F hF h12 r0 iv hr0l hinv _ (HF.out.up (bup HW.out hHeld2.2))).mono ?_
        rintro e w10 ⟨rfl, n10, rfl⟩
        refine hK.out _ _ ⟨hHeld2.1, bdn hHeld2.2 _⟩ (fun hHeld3 => ?_)
        clear hK K
        (try simp only [Act.put, List.setIfInBounds_toArray, List.set_cons_zero, List.set_cons_succ])
        rw [← HST.out.2.1]
        repeat (refine Can.can_pure (v := ?_) rfl rfl (Or.inl ⟨by rfl, ?_⟩) ?_; rotate_left; (focus ((intro w hSw); (try dsimp only at hSw); go_simp; (try with_reducible rfl))); (try simp only [Act.put, List.setIfInBounds_toArray, List.set_cons_zero, List.set_cons_succ]))
        refine Can.can_done ?_
        obtain ⟨x03, hB3⟩ := hHeld3
        have HB3 := Lib.hid hB3; clear hB3 hHeld hHeld1 hHeld2 hb9
        go_wp2_with fail
        refine (monoMul_any F hF h12 g q2 k c ys _ (HF.out.up (bup HW.out HB3.out)) (HPY.out.up HB3.out) HY.out hcl hyn (by omega) (by omega)).mono ?_
        rintro e w11 ⟨qt, rfl, hqt, hb11⟩
        have HB11 := Lib.hid (bup HB3.out hb11); clear hb11 x03
        have HQT := Lib.hid hqt; clear hqt
        have x011 : w11.cell? ⟨q1, 0, none⟩ = some (.pointer (some ⟨g, 0, none⟩)) := cell_up x0r HB11.out
        go_wp2_with fail
        refine (monomial_any F h12 g k c _ (by omega) hcp).mono ?_
        rintro e w12 ⟨qm, rfl, hqm, hb12⟩
        have HB12 := Lib.hid (bup HB11.out hb12); clear x011
        have HQT2 := Lib.hid (HQT.out.up hb12); clear hb12 HQT
        have hmlt : ∀ x ∈ c :: List.replicate k 0, x < F.s := fun x hx => by
          rcases List.mem_cons.1 hx with rfl | hx
          · exact hcl
          · rw [List.eq_of_mem_replicate hx]; exact Gf.s_pos F
        have HML := Lib.hid hmlt; clear hmlt
        go_wp2_with fail
        refine (polyAdd_any F h12 g a qm qs (c :: List.replicate k 0) _ (HPQ.out.up HB12.out) hqm HLQ.out HML.out HTQ.out ⟨by simp, .inr (by simp; omega)⟩ (by omega) (by simp; omega)).mono ?_
        rintro e w13 ⟨qq, rfl, hqq, hb13⟩
        have HB13 := Lib.hid (bup HB12.out hb13)
        have HQT3 := Lib.hid (HQT2.out.up hb13); clear hb13 HQT2
        have HQQ := Lib.hid hqq; clear hqq hqm
        have hsl : (Gf.scaled F ys c ++ List.replicate k 0).length = ys.length + k := by rw [List.length_append, Gf.scaled_len, List.length_replicate]
        have htl := tidy_len (Gf.scaled F ys c ++ List.replicate k 0)
        have hsne : Gf.scaled F ys c ++ List.replicate k 0 ≠ [] := by intro h0; rw [h0] at hsl; simp at hsl; omega
        have hyk : ys.length ≤ dy + 1 := by rw [HDY.out.1]; exact Nat.le_refl _
        go_wp2_with fail
        refine (polyAdd_any F h12 g b qt r (tidy (Gf.scaled F ys c ++ List.replicate k 0)) _ (HPR.out.up HB13.out) HQT3.out HLR.out (Gf.tidy_lt (Gf.app_lt (Gf.scaled_lt hF c HY.out) (Gf.rep_lt k))) HTR.out (tidy_tidy _ hsne) (by omega) (by omega)).mono ?_
        rintro e w14 ⟨qr', rfl, hqr, hb14⟩
        rw [← HST.out.1] at hqr
        have hql : (tidy (Gf.padd qs (c :: List.replicate k 0))).length ≤ 8192 := by
          refine Nat.le_trans (tidy_len _) ?_
          rw [Gf.padd_len]; simp; omega
        have hqt : Tidy (tidy (Gf.padd qs (c :: List.replicate k 0))) := tidy_tidy _ (by
          intro h0; have := congrArg List.length h0; rw [Gf.padd_len] at this; simp at this)
        have hqlt : ∀ x ∈ tidy (Gf.padd qs (c :: List.replicate k 0)), x < F.s := Gf.tidy_lt (Gf.padd_lt HLQ.out HML.out)
        have HQQ2 := Lib.hid (HQQ.out.up hb14); clear HQQ
        have HQR := Lib.hid hqr; clear hqr
        have HQLT := Lib.hid hqlt; clear hqlt
        have HQTT := Lib.hid hqt; clear hqt
        have HB14 := Lib.hid (bup HW.out (bup HB13.out hb14)); clear hb14
        generalize tidy (Gf.padd qs (c :: List.replicate k 0)) = qs' at *
        generalize Gf.restStep F ys r = r' at *
        go_wp2
        go_roundg n
        case measure => exact hgn
        case rel => exact ⟨qq, qr', qs', r', rfl, rfl, HQQ2, HQR, hql, hrx8, HQTT, HTx, HQLT, HLx, HMx, HNx, HB14⟩
    · have HE : Hid (r = R) := Lib.hid (by rw [← HRE.out, Gf.rest_short]; rw [HDY.out.1, HDR.out]; omega)
      go_wp2_with fail
      refine (degree_any b g r dr wr HPR.out HDR.out).mono ?_
      rintro e wr ⟨rfl, rfl⟩
      go_wp2_with fail
      refine (degree_any q2 g ys dy wr HPY.out HDY.out.1).mono ?_
      rintro e wr ⟨rfl, rfl⟩
      go_wp2
      go_ret3
      exact ⟨a, b, rfl, by rw [← HE.out]; exact HPR.out, HW.out⟩
end Go.Proofs.Ytneojmkccgjcgaa
