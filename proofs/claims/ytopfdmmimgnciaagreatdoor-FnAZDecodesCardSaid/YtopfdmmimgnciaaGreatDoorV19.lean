/-
  WALKS: the algorithm of Euclid on the syndromes.
-/
import Derived.Test.YtopfdmmimgnciaaGreatDoorV18
import Derived.Test.YtopfdmmimgnciaaGreatDoorV15
import Derived.Deep.LoopGhost
namespace Go.Proofs.YtopfdmmimgnciaaGreatDoor
open Go.RowKit

theorem Gf.divQ_stop (F : Gf.Fd) (b : List Nat) (n : Nat) (s : List Nat × List Nat) (h : ¬ (b.length ≤ s.2.length ∧ s.2 ≠ [0])) : Gf.divQ F b n s = s := by
  cases n with
  | zero => rfl
  | succ n => rw [Gf.divQ, if_neg h]
theorem Gf.divQ_go (F : Gf.Fd) (b : List Nat) (n : Nat) (q r : List Nat) (h1 : b.length ≤ r.length) (h2 : r ≠ [0]) : Gf.divQ F b (n + 1) (q, r) = Gf.divQ F b n (tidy (Gf.padd q (Gf.lead F b r :: List.replicate (r.length - b.length) 0)), Gf.restStep F b r) := by
  rw [Gf.divQ, if_pos ⟨h1, h2⟩]
theorem Gf.euc_stop (F : Gf.Fd) (R n : Nat) (s : Gf.Eu) (h : ¬ R ≤ 2 * (s.r.length - 1)) : Gf.euc F R n s = s := by
  cases n with
  | zero => rfl
  | succ n => rw [Gf.euc, if_neg h]
/-- What the algorithm hands back. -/
def RanEu (w : World) (g : Nat) (F : Gf.Fd) (E : Gf.Eu) (e : Ending) (w' : World) : Prop :=
  (Gf.t0 E = 0 → ∃ t u, e = .returned (.tuple #[.pointer none, .pointer none, .iface t u])) ∧
  (Gf.t0 E ≠ 0 → ∃ q1 q2, e = .returned (.tuple #[.pointer (some ⟨q1, 0, none⟩), .pointer (some ⟨q2, 0, none⟩), .nilIface]) ∧ PolyAt w' q1 g (Gf.sigO F E) ∧ PolyAt w' q2 g (Gf.omO F E)) ∧ Below w.heap.size w w'
theorem newExc_any (s : ByteArray) (w : World) : Calls Tryz.prog 106 #[.string s] w fun e w' => (∃ t u, e = .returned (.iface t u)) ∧ w' = w := by
  go_enter Tryz.func106, Tryz.ntmps106
  go_wp2
  go_ret
  exact ⟨⟨_, _, rfl⟩, rfl⟩

set_option maxRecDepth 100000 in
set_option maxHeartbeats 8000000 in
theorem runEuclid_any (F : Gf.Fd) (hF : Gf.Ok F) (h12 : F.m ≤ 12) (gd g qa qb R : Nat) (Sl xa xb : List Nat) (E : Gf.Eu) (w : World) (hd : Blk w gd 162 #[.pointer (some ⟨g, 0, none⟩)]) (hf : FieldAt w g F)
    (hpa : PolyAt w qa g xa) (hpb : PolyAt w qb g xb) (hR : 1 ≤ R) (hR4 : R ≤ 4096) (hS : Gf.Ls F Sl) (hJ : Gf.EuJ F R Sl ⟨xa, xb, [0], [1]⟩) (hxb : xb.length ≤ R) (hE : Gf.euc F R R ⟨xa, xb, [0], [1]⟩ = E) :
    Calls Tryz.prog 102 #[.pointer (some ⟨gd, 0, none⟩), .pointer (some ⟨qa, 0, none⟩), .pointer (some ⟨qb, 0, none⟩), .int .i64 R] w (RanEu w g F E) := by
  have hs12 := s_le F h12
  have d0 : w.cell? ⟨gd, 0, none⟩ = some (.pointer (some ⟨g, 0, none⟩)) := by rw [hd.cell]; rfl
  have l4 := hJ.l4
  simp only at l4
  obtain ⟨da, hda⟩ : ∃ da, xa.length = da + 1 := ⟨xa.length - 1, by have := Gf.tidy_pos hJ.trL; simp only at this; omega⟩
  obtain ⟨db, hdb⟩ : ∃ db, xb.length = db + 1 := ⟨xb.length - 1, by have := Gf.tidy_pos hJ.tr; simp only at this; omega⟩
  have hda4 : da ≤ 4096 := by
    have h1 := hJ.l1
    simp only [List.length_cons, List.length_nil] at h1
    omega
  have hdd : db < da := by omega
  have HDA := Lib.hid (And.intro hda hdb); clear hda hdb l4
  have HJ := Lib.hid hJ; clear hJ
  have HF := Lib.hid hf; clear hf
  have HPA := Lib.hid hpa; clear hpa
  have HPB := Lib.hid hpb; clear hpb
  have HE := Lib.hid hE; clear hE
  have HXB := Lib.hid hxb; clear hxb
  clear hd
  go_enter Tryz.func102, Tryz.ntmps102
  go_wp2_with fail
  refine (degree_any qa g xa da w HPA.out HDA.out.1).mono ?_
  rintro e w1 ⟨rfl, rfl⟩
  go_wp2_with fail
  refine (degree_any qb g xb db w1 HPB.out HDA.out.2).mono ?_
  rintro e w1 ⟨rfl, rfl⟩
  go_wp2_with fail
  refine (getZero_any g F w1 HF.out).mono ?_
  rintro e w1 ⟨qz, rfl, hqz, rfl⟩
  have HQZ := Lib.hid hqz; clear hqz
  go_wp2_with fail
  refine (getOne_any g F w1 HF.out).mono ?_
  rintro e w1 ⟨qo, rfl, hqo, rfl⟩
  have HQO := Lib.hid hqo; clear hqo
  go_wp2_with fail
  go_loopg [11, 12, 13, 14] R (fun k v11 v12 v13 v14 wr => ∃ (a b c d : Nat) (s : Gf.Eu), v11 = .pointer (some ⟨a, 0, none⟩) ∧ v12 = .pointer (some ⟨b, 0, none⟩) ∧ v13 = .pointer (some ⟨c, 0, none⟩) ∧ v14 = .pointer (some ⟨d, 0, none⟩) ∧
    Hid (PolyAt wr a g s.rL) ∧ Hid (PolyAt wr b g s.r) ∧ Hid (PolyAt wr c g s.tL) ∧ Hid (PolyAt wr d g s.t) ∧ Hid (Gf.EuJ F R Sl s) ∧ Hid (s.r.length ≤ k) ∧ Hid (Gf.euc F R k s = E) ∧ Hid (Below w1.heap.size w1 wr))
  case atStart => exact ⟨qa, qb, qz, qo, ⟨xa, xb, [0], [1]⟩, rfl, rfl, rfl, rfl, HPA, HPB, HQZ, HQO, HJ, HXB, HE, Lib.hid (brf w1)⟩
  case round =>
    clear HJ HPA HPB HQZ HQO HE HXB HDA hda4 hdd
    obtain ⟨a, b, c, d, s, rfl, rfl, rfl, rfl, HA, HB, HC, HD, HJ, HK, HE, HW⟩ := hrel
    rename World => wo
    have hlen := And.intro HJ.out.l1 (And.intro HJ.out.l2 (And.intro HJ.out.l3 HJ.out.l4))
    have htp := Gf.tidy_pos HJ.out.tt
    have htLp := Gf.tidy_pos HJ.out.ttL
    have hrp := Gf.tidy_pos HJ.out.tr
    obtain ⟨dr, hdr⟩ : ∃ dr, s.r.length = dr + 1 := ⟨s.r.length - 1, by omega⟩
    have dO : wo.cell? ⟨gd, 0, none⟩ = some (.pointer (some ⟨g, 0, none⟩)) := cell_up d0 HW.out
    have hdr4 : dr ≤ 4096 := by omega
    by_cases hc : R ≤ 2 * dr
    · obtain ⟨n, hn⟩ : ∃ n, gk = n + 1 := ⟨gk - 1, by have := HK.out; omega⟩
      have hgn : n < gk := by omega
      have hEn : Gf.euc F R n (Gf.eucStep F s) = E := by
        have h1 := HE.out
        rw [hn, Gf.euc, if_pos (show R ≤ 2 * (s.r.length - 1) by omega)] at h1
        exact h1
      have HEN := Lib.hid hEn; clear hEn HE
      have hJn := Gf.euJ_step hF hR hS HJ.out (show R ≤ 2 * (s.r.length - 1) by omega)
      have hKn : (Gf.eucStep F s).r.length ≤ n := by
        have h1 := hJn.l4
        have h2 : (Gf.eucStep F s).rL = s.r := rfl
        have h3 := HK.out
        rw [h2] at h1
        omega
      have HJN := Lib.hid hJn; clear hJn
      have HKN := Lib.hid hKn; clear hKn HK hn
      have HY : Hid (∀ x ∈ s.r, x < F.s) := Lib.hid (Gf.un_rev HJ.out.I.lr)
      have HYL : Hid (∀ x ∈ s.rL, x < F.s) := Lib.hid (Gf.un_rev HJ.out.I.lrL)
      have HTt : Hid (∀ x ∈ s.t, x < F.s) := Lib.hid (Gf.un_rev HJ.out.I.lt)
      have HTL : Hid (∀ x ∈ s.tL, x < F.s) := Lib.hid (Gf.un_rev HJ.out.I.ltL)
      have hy0 : ¬ s.r.getD 0 0 = 0 := Gf.tidy_lead HJ.out.tr (by omega)
      have hl0 : s.r.getD 0 0 < F.s := by rw [getD_lt _ _ _ hrp]; exact HY.out _ (List.getElem_mem hrp)
      have hyn := hrp
      obtain ⟨y0v, hy0v⟩ : ∃ y0v, y0v = s.r.getD 0 0 := ⟨_, rfl⟩
      rw [← hy0v] at hl0
      have hlp : 0 < y0v := by omega
      have hlead : s.r.getD (s.r.length - 1 - dr) 0 = y0v := by rw [hy0v, hdr]; simp
      have hrL4 : s.rL.length ≤ 4097 := by omega
      have hyl4 : s.r.length ≤ 4098 := by omega
      have ht4 : s.t.length ≤ 4098 := by omega
      have htL4 : s.tL.length ≤ 4098 := by omega
      have HY0 := Lib.hid hy0; clear hy0
      have HDR := Lib.hid (And.intro hdr hlead); clear hdr hlead
      have HLEN := Lib.hid (And.intro hlen (And.intro htp htLp)); clear hlen htp htLp
      have HYV := Lib.hid hy0v; clear hy0v
      obtain ⟨D, hD⟩ : ∃ D, D = Gf.divQ F s.r s.rL.length ([0], s.rL) := ⟨_, rfl⟩
      have hst : Gf.eucStep F s = ⟨s.r, D.2, s.t, tidy (Gf.padd (tidy (Gf.prod F D.1 s.t)) s.tL)⟩ := by rw [hD]; rfl
      have hDok := Gf.divQ_ok hF HY.out HJ.out.tr.1 HY0.out s.rL.length ([0], s.rL) (Gf.divI_start HYL.out HJ.out.trL) (Gf.mes_le s.rL)
      rw [← hD] at hDok
      have hDl : D.2.length < s.r.length := by
        rcases hDok.2 with h1 | h1
        · exact h1
        · rw [h1, HDR.out.1]; simp; omega
      have HDO := Lib.hid hDok.1; clear hDok
      have HST := Lib.hid hst; clear hst
      have HDE := Lib.hid hD.symm; clear hD
      have HDL := Lib.hid hDl; clear hDl
      have HCC := Lib.hid hc
      go_wp2_with fail
      refine (degree_any b g s.r dr wo HB.out HDR.out.1).mono ?_
      rintro e wo ⟨rfl, rfl⟩
      go_wp2_with fail
      clear hc
      refine (isZero_no b g s.r wo HB.out HJ.out.tr.1 HY0.out).mono ?_
      rintro e wo ⟨rfl, rfl⟩
      go_wp2_with fail
      refine (getZero_any g F wo (HF.out.up HW.out)).mono ?_
      rintro e wo ⟨qz, rfl, hqz, rfl⟩
      have HQZ := Lib.hid hqz; clear hqz
      go_wp2_with fail
      refine (degree_any b g s.r dr wo HB.out HDR.out.1).mono ?_
      rintro e wo ⟨rfl, rfl⟩
      go_wp2_with fail
      refine (coefficient_any b g s.r dr wo HB.out (by rw [HDR.out.1]; omega)).mono ?_
      rintro e w2 ⟨rfl, hb2⟩
      rw [HDR.out.2]
      have HB2 := Lib.hid hb2; clear hb2
      have d2 : w2.cell? ⟨gd, 0, none⟩ = some (.pointer (some ⟨g, 0, none⟩)) := cell_up dO HB2.out
      go_wp2_with fail
      refine (inverse_any g F hF h12 y0v hlp hl0 _ (HF.out.up (bup HW.out HB2.out))).mono ?_
      rintro e w3 ⟨rfl, hb3⟩
      have HB3 := Lib.hid (bup HB2.out hb3); clear hb3 HB2 d2
      have hinv : Gf.inv F y0v < F.s := Gf.inv_lt hF _
      obtain ⟨iv, hiv⟩ : ∃ iv, iv = Gf.inv F y0v := ⟨_, rfl⟩
      rw [← hiv] at hinv ⊢
      have HIV := Lib.hid hiv; clear hiv
      go_wp2_with fail
      go_loopg [12, 17] s.rL.length (fun k v12 v17 wr => ∃ (p q : Nat) (rr qq : List Nat), v12 = .pointer (some ⟨p, 0, none⟩) ∧ v17 = .pointer (some ⟨q, 0, none⟩) ∧ Hid (PolyAt wr p g rr) ∧ Hid (PolyAt wr q g qq) ∧ Hid (Gf.DivI F s.r s.rL (qq, rr)) ∧ Hid (Gf.mes rr ≤ k) ∧ Hid (Gf.divQ F s.r k (qq, rr) = D) ∧ Hid (Below wo.heap.size wo wr))
      case atStart => exact ⟨a, qz, s.rL, [0], rfl, rfl, Lib.hid (HA.out.up HB3.out), Lib.hid (HQZ.out.up HB3.out), Lib.hid (Gf.divI_start HYL.out HJ.out.trL), Lib.hid (Gf.mes_le s.rL), HDE, HB3⟩
      case round =>
        clear HB3 HQZ HDE
        obtain ⟨p, q, rr, qq, rfl, rfl, HP, HQ, HDI, HM, HDE, HV⟩ := hrel
        have hrrn := Gf.tidy_pos HDI.out.tr
        simp only at hrrn
        have hlr := HDI.out.lr
        have hlq := HDI.out.lq
        simp only at hlr hlq
        obtain ⟨dq, hdq⟩ : ∃ dq, rr.length = dq + 1 := ⟨rr.length - 1, by omega⟩
        have hq8 : qq.length ≤ 4098 := by omega
        have hdq8 : dq ≤ 4097 := by omega
        have HDQ := Lib.hid hdq; clear hdq hlq
        have dR : wr.cell? ⟨gd, 0, none⟩ = some (.pointer (some ⟨g, 0, none⟩)) := cell_up dO HV.out
        have HBR := Lib.hid (HB.out.up HV.out)
        have HFR := Lib.hid (HF.out.up (bup HW.out HV.out))
        by_cases hlt : dr ≤ dq
        · have hdr1 : 1 ≤ dr := by have := HCC.out; omega
          have hle : s.r.length ≤ rr.length := by rw [HDR.out.1, HDQ.out]; omega
          have hrr2 : 2 ≤ rr.length := by rw [HDQ.out]; omega
          have hz : ¬ rr.getD 0 0 = 0 := Gf.tidy_lead HDI.out.tr hrr2
          have hrrne : rr ≠ [0] := fun h0 => hz (by rw [h0]; rfl)
          have HLR : Hid (∀ x ∈ rr, x < F.s) := Lib.hid HDI.out.r
          have HLQ : Hid (∀ x ∈ qq, x < F.s) := Lib.hid HDI.out.q
          have HTR : Hid (Tidy rr) := Lib.hid HDI.out.tr
          have HTQ : Hid (Tidy qq) := Lib.hid HDI.out.tq
          obtain ⟨m, hm⟩ : ∃ m, gk = m + 1 := ⟨gk - 1, by
            have h1 := HM.out
            unfold Gf.mes at h1
            rw [if_neg hrrne] at h1
            omega⟩
          obtain ⟨k, hk⟩ : ∃ k : Nat, (dq : Int) - (dr : Int) = (k : Int) := ⟨dq - dr, by omega⟩
          have hkn : rr.length - s.r.length = k := by rw [HDQ.out, HDR.out.1]; omega
          have hk8 : k ≤ 4097 := by omega
          have hDEn : Gf.divQ F s.r m (tidy (Gf.padd qq (Gf.lead F s.r rr :: List.replicate k 0)), Gf.restStep F s.r rr) = D := by
            rw [← hkn, ← Gf.divQ_go F s.r m qq rr hle hrrne, ← hm]
            exact HDE.out
          obtain ⟨hDIs, hms⟩ := Gf.divI_step hF HY.out HJ.out.tr.1 HY0.out HDI.out hle hrrne
          rw [hkn] at hDIs
          have hcl := Gf.lead_lt hF s.r HLR.out hrrn
          have hcp := Gf.lead_pos (b := s.r) hF HTR.out HLR.out hrrne
          have hr0l : rr.getD 0 0 < F.s := by rw [getD_lt _ _ _ hrrn]; exact HLR.out _ (List.getElem_mem hrrn)
          have hlead : rr.getD (rr.length - 1 - dq) 0 = rr.getD 0 0 := by rw [HDQ.out]; simp
          have hstep : Gf.restStep F s.r rr = tidy (Gf.padd rr (tidy (Gf.scaled F s.r (Gf.lead F s.r rr) ++ List.replicate k 0))) := by unfold Gf.restStep Gf.term; rw [hkn]
          have hld : Gf.lead F s.r rr = Gf.mul F (rr.getD 0 0) iv := by rw [HIV.out, HYV.out]; rfl
          have hml : Gf.mes (Gf.restStep F s.r rr) ≤ m := by
            have h2 := HM.out
            simp only at hms
            omega
          have hgm : m < gk := by omega
          have hrr4 : rr.length ≤ 4098 := by omega
          obtain ⟨r0, hr0e⟩ : ∃ r0, r0 = rr.getD 0 0 := ⟨_, rfl⟩
          rw [← hr0e] at hld hlead hr0l
          obtain ⟨cc, hcc⟩ : ∃ cc, cc = Gf.lead F s.r rr := ⟨_, rfl⟩
          rw [← hcc] at hcl hcp hstep hld hDEn hDIs
          have HZ := Lib.hid hz; clear hz
          have HSTP := Lib.hid (And.intro hstep (And.intro hld hlead)); clear hstep hld hlead hcc hr0e
          have HMN := Lib.hid hml; clear hml HM
          have HDEN := Lib.hid hDEn; clear hDEn HDE
          have HDIN := Lib.hid hDIs; clear hDIs
          have HNE := Lib.hid hrrne; clear hrrne hm hkn hle hrr2 hms
          go_wp2_with fail
          refine (degree_any p g rr dq wr HP.out HDQ.out).mono ?_
          rintro e wr ⟨rfl, rfl⟩
          go_wp2_with fail
          refine (degree_any b g s.r dr wr HBR.out HDR.out.1).mono ?_
          rintro e wr ⟨rfl, rfl⟩
          go_wp2_with fail
          refine (isZero_no p g rr wr HP.out HTR.out.1 HZ.out).mono ?_
          rintro e wr ⟨rfl, rfl⟩
          go_wp2_with fail
          refine (degree_any p g rr dq wr HP.out HDQ.out).mono ?_
          rintro e wr ⟨rfl, rfl⟩
          go_wp2_with fail
          refine (degree_any b g s.r dr wr HBR.out HDR.out.1).mono ?_
          rintro e wr ⟨rfl, rfl⟩
          go_wp2_with fail
          refine Can.wp_region_can (fun w' => w'.cell? ⟨gd, 0, none⟩ = some (.pointer (some ⟨g, 0, none⟩)) ∧ Below wr.heap.size wr w') 999 [0, 1, 2, 3, 4, 5, 8, 6, 7, 9, 10] (by kernel_rfl) (by kernel_rfl) (fun _ _ d _ _ h => by cases d <;> exact h) ⟨dR, bdr (brf _)⟩ (fun hHeld => ?_)
          repeat (refine Can.can_pure (v := ?_) rfl rfl (Or.inl ⟨by rfl, ?_⟩) ?_; rotate_left; (focus ((intro w hSw); (try dsimp only at hSw); go_simp; (try with_reducible rfl))); (try simp only [Act.put, List.getElem_toArray, List.getElem_cons_succ, List.getElem_cons_zero, List.setIfInBounds_toArray, List.set_cons_zero, List.set_cons_succ]))
          refine Can.can_eff rfl rfl (by rfl) (fun K hK => ?_)
          go_simp
          refine (degree_any p g rr dq _ (HP.out.up hHeld.2) HDQ.out).mono ?_
          rintro e w8 ⟨rfl, rfl⟩
          refine hK.out _ _ hHeld (fun hHeld1 => ?_)
          clear hK K
          (try simp only [Act.put, List.getElem_toArray, List.getElem_cons_succ, List.getElem_cons_zero, List.setIfInBounds_toArray, List.set_cons_zero, List.set_cons_succ])
          repeat (refine Can.can_pure (v := ?_) rfl rfl (Or.inl ⟨by rfl, ?_⟩) ?_; rotate_left; (focus ((intro w hSw); (try dsimp only at hSw); go_simp; (try with_reducible rfl))); (try simp only [Act.put, List.getElem_toArray, List.getElem_cons_succ, List.getElem_cons_zero, List.setIfInBounds_toArray, List.set_cons_zero, List.set_cons_succ]))
          refine Can.can_eff rfl rfl (by rfl) (fun K hK => ?_)
          go_simp
          refine (coefficient_any p g rr dq _ (HP.out.up hHeld1.2) (by rw [HDQ.out]; omega)).mono ?_
          rintro e w9 ⟨rfl, hb9⟩
          refine hK.out _ _ ⟨cell_up hHeld1.1 hb9, bup hHeld1.2 hb9⟩ (fun hHeld2 => ?_)
          clear hK K
          (try simp only [Act.put, List.getElem_toArray, List.getElem_cons_succ, List.getElem_cons_zero, List.setIfInBounds_toArray, List.set_cons_zero, List.set_cons_succ])
          rw [HSTP.out.2.2]
          repeat (refine Can.can_pure (v := ?_) rfl rfl (Or.inl ⟨by rfl, ?_⟩) ?_; rotate_left; (focus ((intro w hSw); (try dsimp only at hSw); go_simp; (try with_reducible rfl))); (try simp only [Act.put, List.getElem_toArray, List.getElem_cons_succ, List.getElem_cons_zero, List.setIfInBounds_toArray, List.set_cons_zero, List.set_cons_succ]))
          refine Can.can_eff rfl rfl (by rfl) (fun K hK => ?_)
          go_simp
          refine (mulGF_any g F hF h12 r0 iv hr0l hinv _ (HFR.out.up hHeld2.2)).mono ?_
          rintro e w10 ⟨rfl, n10, rfl⟩
          refine hK.out _ _ ⟨hHeld2.1, bdn hHeld2.2 _⟩ (fun hHeld3 => ?_)
          clear hK K
          (try simp only [Act.put, List.getElem_toArray, List.getElem_cons_succ, List.getElem_cons_zero, List.setIfInBounds_toArray, List.set_cons_zero, List.set_cons_succ])
          rw [← HSTP.out.2.1]
          repeat (refine Can.can_pure (v := ?_) rfl rfl (Or.inl ⟨by rfl, ?_⟩) ?_; rotate_left; (focus ((intro w hSw); (try dsimp only at hSw); go_simp; (try with_reducible rfl))); (try simp only [Act.put, List.getElem_toArray, List.getElem_cons_succ, List.getElem_cons_zero, List.setIfInBounds_toArray, List.set_cons_zero, List.set_cons_succ]))
          refine Can.can_done ?_
          obtain ⟨x03, hB3⟩ := hHeld3
          have HB3 := Lib.hid hB3; clear hB3 hHeld hHeld1 hHeld2 hb9
          go_wp2_with fail
          refine (monomial_any F h12 g k cc _ (by omega) hcp).mono ?_
          rintro e w12 ⟨qm, rfl, hqm, hb12⟩
          have HB12 := Lib.hid (bup HB3.out hb12); clear hb12
          have hmlt : ∀ x ∈ cc :: List.replicate k 0, x < F.s := fun x hx => by
            rcases List.mem_cons.1 hx with rfl | hx
            · exact hcl
            · rw [List.eq_of_mem_replicate hx]; exact Gf.s_pos F
          have HML := Lib.hid hmlt; clear hmlt
          go_wp2_with fail
          refine (polyAdd_any F h12 g q qm qq (cc :: List.replicate k 0) _ (HQ.out.up HB12.out) hqm HLQ.out HML.out HTQ.out ⟨by simp, .inr (by simp; omega)⟩ (by omega) (by simp; omega)).mono ?_
          rintro e w13 ⟨q', rfl, hqq, hb13⟩
          have HB13 := Lib.hid (bup HB12.out hb13); clear hb13 hqm
          have HQQ := Lib.hid hqq; clear hqq
          go_wp2_with fail
          refine (monoMul_any F hF h12 g b k cc s.r _ (HFR.out.up HB13.out) (HBR.out.up HB13.out) HY.out hcl (by omega) (by omega) (by omega)).mono ?_
          rintro e w11 ⟨qt, rfl, hqt, hb11⟩
          have HB11 := Lib.hid (bup HB13.out hb11)
          have HQQ2 := Lib.hid (HQQ.out.up hb11); clear hb11 HQQ
          have hsl : (Gf.scaled F s.r cc ++ List.replicate k 0).length = s.r.length + k := by rw [List.length_append, Gf.scaled_len, List.length_replicate]
          have htl := tidy_len (Gf.scaled F s.r cc ++ List.replicate k 0)
          have hsne : Gf.scaled F s.r cc ++ List.replicate k 0 ≠ [] := by intro h0; rw [h0] at hsl; simp at hsl; omega
          have HSN := Lib.hid (And.intro hsne (Nat.le_trans htl (Nat.le_of_eq hsl))); clear hsne htl hsl
          go_wp2_with fail
          refine (polyAdd_any F h12 g p qt rr (tidy (Gf.scaled F s.r cc ++ List.replicate k 0)) _ (HP.out.up HB11.out) hqt HLR.out (Gf.tidy_lt (Gf.app_lt (Gf.scaled_lt hF cc HY.out) (Gf.rep_lt k))) HTR.out (tidy_tidy _ HSN.out.1) (by omega) (by have := HSN.out.2; omega)).mono ?_
          rintro e w14 ⟨qr', rfl, hqr, hb14⟩
          rw [← HSTP.out.1] at hqr
          have HQQ3 := Lib.hid (HQQ2.out.up hb14); clear HQQ2
          have HQR := Lib.hid hqr; clear hqr hqt
          have HB14 := Lib.hid (bup HV.out (bup HB11.out hb14)); clear hb14
          go_wp2
          go_roundg m
          case measure => exact hgm
          case rel => exact ⟨qr', q', Gf.restStep F s.r rr, tidy (Gf.padd qq (cc :: List.replicate k 0)), rfl, rfl, HQR, HQQ3, HDIN, HMN, HDEN, HB14⟩
        · have hDq : (qq, rr) = D := by
            have h1 := HDE.out
            rw [Gf.divQ_stop F s.r gk (qq, rr) (fun hh => by
              have h2 := hh.1
              simp only at h2
              rw [HDR.out.1, HDQ.out] at h2
              omega)] at h1
            exact h1
          subst hDq
          have HLQ : Hid (∀ x ∈ qq, x < F.s) := Lib.hid HDI.out.q
          have HTQ : Hid (Tidy qq) := Lib.hid HDI.out.tq
          have hqn := Gf.tidy_pos HTQ.out
          have HPn : Hid (Gf.prod F qq s.t ≠ [] ∧ (Gf.prod F qq s.t).length ≤ 8200) := Lib.hid ⟨fun h9 => by
            have h8 := congrArg List.length h9
            rw [Gf.prod_len, List.length_nil] at h8
            have h7 := HLEN.out.2.1
            omega, by rw [Gf.prod_len]; omega⟩
          go_wp2_with fail
          refine (degree_any p g rr dq wr HP.out HDQ.out).mono ?_
          rintro e wr ⟨rfl, rfl⟩
          go_wp2_with fail
          refine (degree_any b g s.r dr wr HBR.out HDR.out.1).mono ?_
          rintro e wr ⟨rfl, rfl⟩
          go_wp2_with fail
          refine (polyMul_any F hF h12 g q d qq s.t _ HFR.out HQ.out (HD.out.up HV.out) HLQ.out HTt.out HTQ.out HJ.out.tt (by omega) (by omega)).mono ?_
          rintro e w12 ⟨q2, rfl, hq2, hb12⟩
          have HB12 := Lib.hid hb12; clear hb12
          have HQ2 := Lib.hid hq2; clear hq2
          go_wp2_with fail
          refine (polyAdd_any F h12 g q2 c (tidy (Gf.prod F qq s.t)) s.tL _ HQ2.out ((HC.out.up HV.out).up HB12.out) (Gf.tidy_lt (Gf.prod_lt hF qq s.t HLQ.out)) HTL.out (tidy_tidy _ HPn.out.1) HJ.out.ttL (by have h1 := tidy_len (Gf.prod F qq s.t); have h2 := HPn.out.2; omega) (by omega)).mono ?_
          rintro e w13 ⟨q3, rfl, hq3, hb13⟩
          have HB13 := Lib.hid (bup HB12.out hb13); clear hb13
          have HQ3 := Lib.hid hq3; clear hq3
          go_wp2_with fail
          refine (degree_any p g rr dq _ (HP.out.up HB13.out) HDQ.out).mono ?_
          rintro e w14 ⟨rfl, rfl⟩
          go_wp2_with fail
          refine (degree_any b g s.r dr _ (HBR.out.up HB13.out) HDR.out.1).mono ?_
          rintro e w14 ⟨rfl, rfl⟩
          have HW9 := Lib.hid (bup HW.out (bup HV.out HB13.out))
          have HP9 := Lib.hid (HP.out.up HB13.out)
          have HB9 := Lib.hid (HBR.out.up HB13.out)
          have HD9 := Lib.hid ((HD.out.up HV.out).up HB13.out)
          go_wp2
          go_roundg n
          case measure => exact hgn
          case rel => exact ⟨b, p, d, q3, Gf.eucStep F s, rfl, rfl, rfl, rfl, Lib.hid (by rw [HST.out]; exact HB9.out), Lib.hid (by rw [HST.out]; exact HP9.out), Lib.hid (by rw [HST.out]; exact HD9.out), Lib.hid (by rw [HST.out]; exact HQ3.out), HJN, HKN, HEN, HW9⟩
    · have hEs : E = s := by rw [← HE.out, Gf.euc_stop F R gk s (by omega)]
      subst hEs
      have hyl4 : E.r.length ≤ 4098 := by omega
      have ht4 : E.t.length ≤ 4098 := by omega
      have HTt : Hid (∀ x ∈ E.t, x < F.s) := Lib.hid (Gf.un_rev HJ.out.I.lt)
      have HTr : Hid (∀ x ∈ E.r, x < F.s) := Lib.hid (Gf.un_rev HJ.out.I.lr)
      have htz : E.t.getD (E.t.length - 1 - 0) 0 = Gf.t0 E := rfl
      have htl : Gf.t0 E < F.s := by
        unfold Gf.t0
        rw [getD_lt _ _ _ (by omega)]
        exact HTt.out _ (List.getElem_mem _)
      obtain ⟨z, hz⟩ : ∃ z, z = Gf.t0 E := ⟨_, rfl⟩
      rw [← hz] at htz htl
      have HZ := Lib.hid (And.intro hz htz); clear hz htz
      have HDR := Lib.hid (And.intro hdr htp); clear hdr htp hlen htLp
      clear HK HE
      go_wp2_with fail
      refine (degree_any b g E.r dr wo HB.out HDR.out.1).mono ?_
      rintro e wo ⟨rfl, rfl⟩
      go_wp2_with fail
      refine (coefficient_any d g E.t 0 wo HD.out HDR.out.2).mono ?_
      rintro e w2 ⟨rfl, hb2⟩
      rw [HZ.out.2]
      have HB2 := Lib.hid (bup HW.out hb2)
      have HF2 := Lib.hid (HF.out.up HB2.out)
      have HD2 := Lib.hid (HD.out.up hb2)
      have HR2 := Lib.hid (HB.out.up hb2); clear hb2
      have d2 : w2.cell? ⟨gd, 0, none⟩ = some (.pointer (some ⟨g, 0, none⟩)) := cell_up d0 HB2.out
      rcases Nat.eq_zero_or_pos z with hz0 | hz0
      · subst hz0
        go_wp2_with fail
        refine (newExc_any _ _).mono ?_
        rintro e w3 ⟨⟨t, u, rfl⟩, rfl⟩
        go_wp2
        go_ret3
        exact ⟨fun _ => ⟨t, u, rfl⟩, fun h9 => absurd HZ.out.1.symm h9, HB2.out⟩
      · have ez : ((z : Int) == 0) = false := by simp; omega
        go_wp2_with fail
        refine (inverse_any g F hF h12 z hz0 htl _ HF2.out).mono ?_
        rintro e w3 ⟨rfl, hb3⟩
        have hinv : Gf.inv F z < F.s := Gf.inv_lt hF _
        have hinv0 : 0 < Gf.inv F z := Gf.inv_pos hF _
        obtain ⟨iv, hiv⟩ : ∃ iv, iv = Gf.inv F z := ⟨_, rfl⟩
        rw [← hiv] at hinv hinv0 ⊢
        have HIV := Lib.hid hiv; clear hiv
        have HB3 := Lib.hid (bup HB2.out hb3)
        have HF3 := Lib.hid (HF2.out.up hb3)
        have HD3 := Lib.hid (HD2.out.up hb3)
        have HR3 := Lib.hid (HR2.out.up hb3); clear hb3
        go_wp2_with fail
        refine (mulBy_any F hF h12 g d iv E.t _ HF3.out HD3.out HTt.out hinv hinv0 HJ.out.tt (by omega)).mono ?_
        rintro e w4 ⟨q1, rfl, hq1, hb4⟩
        have HQ1 := Lib.hid hq1; clear hq1
        have HB4 := Lib.hid (bup HB3.out hb4)
        have HF4 := Lib.hid (HF3.out.up hb4)
        have HR4 := Lib.hid (HR3.out.up hb4); clear hb4
        go_wp2_with fail
        refine (mulBy_any F hF h12 g b iv E.r _ HF4.out HR4.out HTr.out hinv hinv0 HJ.out.tr (by omega)).mono ?_
        rintro e w5 ⟨q2, rfl, hq2, hb5⟩
        go_wp2
        go_ret3
        refine ⟨fun h9 => ?_, fun _ => ⟨q1, q2, rfl, ?_, ?_⟩, bup HB4.out hb5⟩
        · have := HZ.out.1; omega
        · have h8 := HQ1.out.up hb5
          unfold Gf.sigO
          rw [← HZ.out.1, ← HIV.out]; exact h8
        · unfold Gf.omO
          rw [← HZ.out.1, ← HIV.out]; exact hq2
end Go.Proofs.YtopfdmmimgnciaaGreatDoor
