/-
  WALK: Decoder.correctBits of any words of 12 bits.
-/
import Derived.Test.YtopfdmmimgnciaaGreatDoorV41
namespace Go.Proofs.YtopfdmmimgnciaaGreatDoor
open Go.RowKit

set_option maxRecDepth 100000 in
set_option maxHeartbeats 4000000 in
theorem cor12g (p d : Nat) (v : Value) (pre : List Bool) (E0 : List Nat) (Dn L : Nat) (w : World) (hL0 : 22 < L) (hk : CorAny 12 ⟨4201, 12, 1⟩ E0 Dn) (hpre : pre.length < 12) (hp : Blk w p 92 #[.pointer (some ⟨d, 0, none⟩)]) (hd : DetAt w d Dn L) (hv : RdT w 4 v (bv (pre ++ wbits 12 E0))) :
    Calls Tryz.prog 48 #[.pointer (some ⟨p, 0, none⟩), v] w (CorEnd 12 ⟨4201, 12, 1⟩ E0 Dn w) := by
  have c0 : w.cell? ⟨p, 0, none⟩ = some (.pointer (some ⟨d, 0, none⟩)) := by rw [hp.cell]; rfl
  have hnl := detLayers_any d Dn L w hd
  have HD := Lib.hid hd
  have HV := Lib.hid hv
  have hlen : (pre ++ wbits 12 E0).length = pre.length + 12 * E0.length := by rw [List.length_append, wbits_len]
  obtain ⟨A, cp, rfl, k1, k2, -⟩ := hv
  rw [bv_len, hlen] at k1 HV ⊢
  unfold maxLen at k2
  obtain ⟨T, hT⟩ : ∃ T, T = pre.length + 12 * E0.length := ⟨_, rfl⟩
  rw [← hT] at k1 HV ⊢
  have l2 := hk.len2
  have d1 := hk.d1
  have d2 := hk.d2
  have d200 := hk.d200
  have HK := Lib.hid hk
  have HT := Lib.hid hT
  have hTb : T ≤ 30000 := by omega
  clear hk hlen hd hT
  go_enter Tryz.func48, Tryz.ntmps48
  go_wp2_with fail
  refine hnl.mono ?_
  rintro e w ⟨rfl, rfl⟩
  go_wp2_with fail
  refine hnl.mono ?_
  rintro e w ⟨rfl, rfl⟩
  go_wp2_with fail
  refine hnl.mono ?_
  rintro e w ⟨rfl, rfl⟩
  go_wp2_with fail
  clear hnl
  refine (gf12_any _).mono ?_
  rintro e wg ⟨g, rfl, hf, hb⟩
  have hpb := hp.up hb
  have c0 : wg.cell? ⟨p, 0, none⟩ = some (.pointer (some ⟨d, 0, none⟩)) := by rw [hpb.cell]; rfl
  -- 12 = W, 4095 = the mask, 4094 = the mask less 1, 11 = W - 1; the field's pointer g lies in world wg
  have HF := Lib.hid hf
  have HB := Lib.hid hb
  have hnd := nbData_any d Dn L wg (HD.out.up hb)
  have HVg := Lib.hid (HV.out.up hb)
  clear hf hb hpb
  have hT := HT.out
  have t1 : Int.tdiv (T : Int) 12 = (E0.length : Int) := by rw [Int.tdiv_eq_ediv_of_nonneg (by omega)]; omega
  have t2 : (T : Int) / 12 = (E0.length : Int) := by omega
  have t3 : Int.tmod (T : Int) 12 = (pre.length : Int) := by rw [Int.tmod_eq_emod_of_nonneg (by omega)]; omega
  have t4 : (T : Int) % 12 = (pre.length : Int) := by omega
  have hmk := fun a => mk_ints E0.length a (by omega)
  clear hT
  go_wp2_with fail
  refine hnd.mono ?_
  rintro e wg ⟨rfl, rfl⟩
  clear hnd
  go_wp2_with fail
  clear hmk t1 t2 t3 t4
  obtain ⟨K, hK⟩ : ∃ K, K = E0.length := ⟨_, rfl⟩
  obtain ⟨R, hR⟩ : ∃ R, R = pre.length := ⟨_, rfl⟩
  rw [← hK] at l2 d2
  rw [← hR] at hpre
  have hB0 : Blk (wg.alloc (.cells (nv (List.replicate E0.length 0)).toArray 3)) wg.heap.size 3 (nv (fillA E0 0 E0.length 0)).toArray := by rw [fill_zero]; exact Blk.fresh wg _ _
  have HB0 := Lib.hid hB0
  have HBe := Lib.hid (bal (brf wg) (.cells (nv (List.replicate E0.length 0)).toArray 3))
  clear hB0
  rw [← hK] at HB0 HBe ⊢
  rw [← hR]
  have HKK := Lib.hid hK
  have HRR := Lib.hid hR
  clear hK hR
  go_loopw [10, 12] (fun ov iv wr => ∃ (i : Nat), i ≤ K ∧ ov = .int .i64 ((R + 12 * i : Nat) : Int) ∧ iv = .int .i64 (i : Int) ∧ Hid (Blk wr wg.heap.size 3 (nv (fillA E0 0 K i)).toArray) ∧ Hid (Below wg.heap.size wg wr)) (fun _ iv _ => K - (intOf iv).toNat)
  case atStart => exact ⟨0, Nat.zero_le _, rfl, rfl, HB0, HBe⟩
  case round =>
    clear HB0 HBe
    obtain ⟨i, hi, rfl, rfl, HBk, HBe⟩ := hrel
    rename World => wr
    by_cases hlt : i < K
    · have hEl : i < E0.length := by rw [← HKK.out]; exact hlt
      have hrc := readCode_any (.slice A T cp) (pre ++ wbits 12 E0) (R + 12 * i) 12 wr.heap.size wr ((HVg.out.up HBe.out).rd) (by rw [List.length_append, wbits_len, ← HKK.out, ← HRR.out]; omega) (by decide) (by rw [List.length_append, wbits_len, ← HKK.out, ← HRR.out]; omega)
      have hval : valL (((pre ++ wbits 12 E0).drop (R + 12 * i)).take 12) = E0[i] := by
        rw [HRR.out, wbits_read 12 pre E0 i hEl, valL_putL, List.getD, List.getElem?_eq_getElem hEl]
        refine Nat.mod_eq_of_lt ?_
        have h9 := HK.out.lt0 _ (List.getElem_mem hEl)
        rw [HK.out.s] at h9
        exact h9
      rw [hval] at hrc
      have hset := fill_set E0 0 K i hEl (by rw [HKK.out]; exact Nat.le_refl _)
      have cO : wr.cell? ⟨wg.heap.size, i, none⟩ = some (.int .i64 0) := by
        rw [HBk.out.cell, List.getElem?_toArray]
        unfold nv
        rw [List.getElem?_map, fill_at_k E0 0 K i hlt (by omega)]; rfl
      have fO := HBk.out.frozen i
      obtain ⟨x, hx⟩ : ∃ x, x = E0[i] := ⟨_, rfl⟩
      rw [← hx] at hset hrc
      have hb2 := HBk.out.put i (.int .i64 (x : Int))
      rw [nv_set, hset] at hb2
      have HBk2 := Lib.hid hb2
      have HBe2 := Lib.hid (HBe.out.setCell (p := ⟨wg.heap.size, i, none⟩) (Nat.le_refl _) (.int .i64 (x : Int)))
      have HX := Lib.hid hx
      clear hb2 hset hval hx HBk
      go_wp2_with fail
      refine hrc.mono ?_
      rintro e w2 ⟨rfl, rfl⟩
      clear hrc
      go_wp2_with fail
      go_roundw
      case rel => exact ⟨i + 1, by omega, by go_num, by go_num, HBk2, HBe2⟩
      case measure => simp [intOf]; omega
    · obtain rfl : i = K := by omega
      have hbE : Blk wr wg.heap.size 3 (nv E0).toArray := by
        have h9 := HBk.out
        rw [HKK.out, fill_full] at h9
        exact h9
      have HBE := Lib.hid hbE
      clear HBk hbE
      obtain ⟨ofs, hofs⟩ : ∃ x, x = R + 12 * i := ⟨_, rfl⟩
      rw [← hofs]
      clear hofs hlt hi
      go_wp2_with fail
      refine (newDecoder_any g wr).mono ?_
      rintro e w3 ⟨gd, rfl, hgd, hw3⟩
      have hw39 := bup HBe.out hw3
      have HF3 := Lib.hid (HF.out.up hw39)
      have HE3 := Lib.hid (HBE.out.up hw3)
      obtain ⟨m, hm⟩ : ∃ x, x = i - Dn := ⟨_, rfl⟩
      have e1 : (i : Int) - (Dn : Int) = (m : Int) := by omega
      have hlK0 := HKK.out
      have hw3w := HB.out.trans (hw39.mono HB.out.size)
      have hdc := decode_any _ HK.out.ok HK.out.m12 gd g wg.heap.size i m E0 w w3 hgd HF3.out ((HF.out.off (Nat.le_refl wg.heap.size)).up hw39) hw3w HE3.out HB.out.size HK.out.lt0 hlK0.symm (by omega) (by omega) (by omega)
        (by have h9 := HK.out.len; have h8 := HK.out.b1; have h7 := HK.out.d1; omega)
      obtain ⟨O, hO⟩ : ∃ O, O = Gf.rsDec ⟨4201, 12, 1⟩ m E0 := ⟨_, rfl⟩
      rw [← hO] at hdc
      rw [hm, HKK.out] at hO
      have HOO := Lib.hid hO
      have hRp : 1 ≤ E0.length - Dn := by rw [← hlK0]; omega
      rcases O with _ | E
      · as_aux_lemma =>
        have HNO := Lib.hid (corG_no (W := 12) HOO.out.symm)
        have hdc2 := hdc.mono (fun e w' ⟨h1, _, h3⟩ => And.intro (h1 rfl) h3)
        clear hdc hO hm hgd hw3 hw39 HBE HBe HF HB hlK0 hw3w HOO hRp
        go_wp2_with fail
        refine hdc2.mono ?_
        rintro e w4 ⟨⟨t4, u4, rfl⟩, hw4⟩
        have HB4 := Lib.hid hw4
        clear hdc2 hw4 HE3 HF3 e1
        go_wp2_with fail
        refine (wrapF_any _ _ _).mono ?_
        rintro e w5 ⟨⟨t5, u5, rfl⟩, hb5⟩
        have HB5 := Lib.hid (bup HB4.out hb5)
        clear hb5 HB4
        go_wp2_with fail
        go_ret2
        exact ⟨.inr ⟨HNO.out, _, _, rfl⟩, HB5.out⟩
      have HE0 := Lib.hid (And.intro (Gf.rsDec_lt HK.out.ok hRp HK.out.lt0 HOO.out.symm) (Gf.rsDec_len HOO.out.symm))
      have hdc2 := hdc.mono (fun e w' ⟨_, h2, h3⟩ => And.intro (h2 E rfl).1 (And.intro (h2 E rfl).2 h3))
      have HK0 := HKK
      have HKK := Lib.hid (HKK.out.trans HE0.out.2.symm)
      clear hdc hO hm hgd hw3 hw39 HBE HBe HF HB hlK0 hw3w hRp
      go_wp2_with fail
      refine hdc2.mono ?_
      rintro e w4 ⟨rfl, hw4e, hw4⟩
      have HE4 := Lib.hid hw4e
      have HB4 := Lib.hid hw4
      clear hdc2 hw4 hw4e HE3 HF3 e1
      obtain ⟨g1, hg1⟩ : ∃ x, x = wg.heap.size := ⟨_, rfl⟩
      rw [← hg1] at HE4 ⊢
      clear hg1
      have HX : Hid (∀ k, k < Dn → w4.cell? ⟨g1, k, none⟩ = some (.int .i64 ((E.getD k 0 : Nat) : Int))) := Lib.hid (fun k hkd => by
        have hkl : k < E.length := by rw [← HKK.out]; omega
        rw [HE4.out.cell, List.getElem?_toArray, nv_at E k hkl, List.getD, List.getElem?_eq_getElem hkl]; rfl)
      have HTK : Hid (∀ k, k < Dn → E.take (k + 1) = E.take k ++ [E.getD k 0]) := Lib.hid (fun k hkd => take_one E k (by rw [← HKK.out]; omega))
      go_wp2_with fail
      obtain ⟨w5, rfl⟩ : ∃ wo : World, wo = w4 := ⟨_, rfl⟩
      go_loopw [16, 17] (fun sv iv wr => ∃ (s k : Nat), k ≤ Dn ∧ s ≤ k ∧ sv = .int .i64 (s : Int) ∧ iv = .int .i64 (k : Int) ∧ Hid (s = cntS 12 (E.take k)) ∧ Hid (∀ q, q < k → 1 ≤ E.getD q 0 ∧ E.getD q 0 < 4095) ∧ wr = w5) (fun _ iv _ => Dn - (intOf iv).toNat)
      case atStart => exact ⟨0, 0, Nat.zero_le _, Nat.le_refl _, rfl, rfl, Lib.hid (by simp [cntS]), Lib.hid (fun q hq => absurd hq (Nat.not_lt_zero _)), rfl⟩
      case round =>
        obtain ⟨s, k, hk, hs, rfl, rfl, HS, HGD, rfl⟩ := hrel
        rename World => w5
        by_cases hkd : k < Dn
        · have cX := HX.out k hkd
          have hkl : k < E.length := by rw [← HKK.out]; omega
          have hxs : E.getD k 0 < 2 ^ 12 := by
            rw [List.getD, List.getElem?_eq_getElem hkl, ← HK.out.s]
            exact HE0.out.1 _ (List.getElem_mem hkl)
          have hnx := HTK.out k hkd
          have hbad := fun h => corG_bad (W := 12) (k := k) HOO.out.symm hkd hkl h
          have HBD := Lib.hid hbad
          have HGK : Hid (1 ≤ E.getD k 0 ∧ E.getD k 0 < 4095 → ∀ q, q < k + 1 → 1 ≤ E.getD q 0 ∧ E.getD q 0 < 4095) := Lib.hid (fun h q hq => by
            by_cases hqk : q < k
            · exact HGD.out q hqk
            · obtain rfl : q = k := by omega
              exact h)
          clear hbad hkl
          obtain ⟨x, hx⟩ : ∃ x, x = E.getD k 0 := ⟨_, rfl⟩
          rw [← hx] at cX hxs hnx HBD HGK
          by_cases hx0 : x = 0
          · as_aux_lemma =>
            subst hx0
            have HNO := Lib.hid (HBD.out (.inl rfl))
            clear hxs hnx HBD HGK HGD HS HTK hx HE4 HX
            go_wp2_with fail
            refine (newF_any _ _).mono ?_
            rintro e w6 ⟨⟨t6, u6, rfl⟩, hb6⟩
            have HB6 := Lib.hid (bup (bal HB4.out _) hb6)
            clear hb6 HB4
            go_wp2_with fail
            go_ret2
            exact ⟨.inr ⟨HNO.out, _, _, rfl⟩, HB6.out⟩
          by_cases hxm : x = 4095
          · as_aux_lemma =>
            subst hxm
            have HNO := Lib.hid (HBD.out (.inr rfl))
            clear hxs hnx HBD HGK HGD HS HTK hx HE4 HX hx0
            go_wp2_with fail
            refine (newF_any _ _).mono ?_
            rintro e w6 ⟨⟨t6, u6, rfl⟩, hb6⟩
            have HB6 := Lib.hid (bup (bal HB4.out _) hb6)
            clear hb6 HB4
            go_wp2_with fail
            go_ret2
            exact ⟨.inr ⟨HNO.out, _, _, rfl⟩, HB6.out⟩
          have x1 : 1 ≤ x := by omega
          have x2 : x < 2 ^ 12 - 1 := by
            rw [show (2 : Nat) ^ 12 - 1 = 4095 from rfl]
            have h8 : x < 4095 + 1 := hxs
            omega
          have HGD2 := Lib.hid (HGK.out ⟨x1, x2⟩)
          clear hxs hx0 hxm HBD HGK HGD
          have hS2 : cntS 12 (E.take (k + 1)) = s + (isStuf 12 x).toNat := by rw [hnx, cntS_snoc, HS.out]
          have HS2 := Lib.hid hS2
          have x63 : x < 4095 := by omega
          clear hx hnx x2 hS2 HS
          have n0 : ((x : Int) == 0) = false := by rw [beq_eq_false_iff_ne]; omega
          have n63 : ((x : Int) == 4095) = false := by rw [beq_eq_false_iff_ne]; omega
          by_cases hx1 : x = 1
          · subst hx1
            go_wp2_with fail
            go_roundw
            case rel => exact ⟨s + 1, k + 1, by omega, by omega, by go_num, by go_num, Lib.hid (by rw [HS2.out]; rfl), HGD2, trivial⟩
            case measure => simp [intOf]; omega
          · by_cases hx2 : x = 4094
            · subst hx2
              go_wp2_with fail
              go_roundw
              case rel => exact ⟨s + 1, k + 1, by omega, by omega, by go_num, by go_num, Lib.hid (by rw [HS2.out]; rfl), HGD2, trivial⟩
              case measure => simp [intOf]; omega
            · have n1 : ((x : Int) == 1) = false := by rw [beq_eq_false_iff_ne]; omega
              have n62 : ((x : Int) == 4094) = false := by rw [beq_eq_false_iff_ne]; omega
              have hst : isStuf 12 x = false := by
                unfold isStuf
                rw [Bool.or_eq_false_iff, beq_eq_false_iff_ne, beq_eq_false_iff_ne]
                exact ⟨hx1, hx2⟩
              have HS3 : Hid (s = cntS 12 (E.take (k + 1))) := Lib.hid (by rw [HS2.out, hst]; rfl)
              clear hst HS2
              go_wp2_with fail
              go_roundw
              case rel => exact ⟨s, k + 1, by omega, by omega, rfl, by go_num, HS3, HGD2, trivial⟩
              case measure => simp [intOf]; omega
        · obtain rfl : k = Dn := by omega
          clear hkd hk
          obtain ⟨DL, hDL⟩ : ∃ x, x = E.take k := ⟨_, rfl⟩
          obtain ⟨Row, hRow⟩ : ∃ x, x = unL 12 DL := ⟨_, rfl⟩
          obtain ⟨U, hU⟩ : ∃ x, x = Row.length := ⟨_, rfl⟩
          have hDLl : DL.length = k := by rw [hDL, List.length_take, ← HKK.out]; omega
          have hul := unL_len 12 DL (by decide)
          rw [← hRow, ← hU, hDLl, hDL, ← HS.out] at hul
          have e2 : (k : Int) * 12 - (s : Int) = (U : Int) := by omega
          have hUb : U ≤ 20000 := by omega
          have hmkb := fun a => mk_bools U a (by omega)
          have HDE : Hid (∀ q, q < k → DL.getD q 0 = E.getD q 0) := Lib.hid (fun q hq => by
            rw [hDL, List.getD, List.getD, List.getElem?_take_of_lt hq])
          have HDR := Lib.hid (And.intro hRow (And.intro hU (And.intro hDLl hDL)))
          have HR0 : Hid (Blk (w5.alloc (.cells (bv (List.replicate U false)).toArray 4)) w5.heap.size 4 (bv (fillA Row false U 0)).toArray) := Lib.hid (by rw [fill_zero]; exact Blk.fresh w5 _ _)
          have HB5 := Lib.hid (bal (brf w5) (.cells (bv (List.replicate U false)).toArray 4))
          have HDATA := HGD
          clear hDL hRow hU hDLl hul HS HTK
          go_wp2_with fail
          clear hmkb e2
          go_loopw [20, 21] (fun xv iv wr => ∃ (y j : Nat), y ≤ k ∧ j ≤ U ∧ xv = .int .i64 (j : Int) ∧ iv = .int .i64 (y : Int) ∧ Hid (j = (unL 12 (DL.take y)).length) ∧ Hid (Blk wr w5.heap.size 4 (bv (fillA Row false U j)).toArray) ∧ Hid (Below w5.heap.size w5 wr)) (fun _ iv _ => k - (intOf iv).toNat)
          case atStart => exact ⟨0, 0, Nat.zero_le _, Nat.zero_le _, rfl, rfl, Lib.hid (by simp [unL]), HR0, HB5⟩
          case round =>
            clear HR0 HB5
            obtain ⟨y, j, hy, hj, rfl, rfl, HJ, HR, HB⟩ := hrel
            rename World => wr
            by_cases hyk : y < k
            · have cX := cell_up (HX.out y hyk) HB.out
              obtain ⟨x1, x2⟩ := HDATA.out y hyk
              have hyl : y < DL.length := by rw [HDR.out.2.2.1]; exact hyk
              have hnx := unL_next 12 DL y hyl
              have hle := unL_le 12 DL (y + 1)
              have hat := fun b hb => unL_at 12 DL y b hyl hb
              rw [← HJ.out, HDE.out y hyk] at hnx
              rw [← HDR.out.1, ← HDR.out.2.1, hnx] at hle
              rw [← HJ.out, HDE.out y hyk, ← HDR.out.1] at hat
              obtain ⟨x, hx⟩ : ∃ x, x = E.getD y 0 := ⟨_, rfl⟩
              rw [← hx] at cX x1 x2 hnx hle hat
              have x63 : x < 4095 := by omega
              have HAT := Lib.hid hat
              have HNX := Lib.hid hnx
              have hRl := HDR.out.2.1
              have HFS : Hid (∀ (q : Nat) (b : Bool), q < U → Row[q]? = some b → (fillA Row false U q).set q b = fillA Row false U (q + 1)) := Lib.hid (fun q b hq hb => by
                have hql : q < Row.length := by rw [← hRl]; exact hq
                rw [List.getElem?_eq_getElem hql] at hb
                injection hb with hb
                rw [← hb]
                exact fill_set Row false U q hql (by rw [hRl]; exact Nat.le_refl _))
              have HCO : Hid (∀ (q : Nat) (wi : World), q < U → Blk wi w5.heap.size 4 (bv (fillA Row false U q)).toArray → wi.cell? ⟨w5.heap.size, q, none⟩ = some (.bool false)) := Lib.hid (fun q wi hq hb => by
                rw [hb.cell, List.getElem?_toArray]
                unfold bv
                rw [List.getElem?_map, fill_at_k Row false U q hq (by omega)]; rfl)
              clear hx hnx hat x2 HJ hyl hRl
              by_cases hx1 : x = 1
              · subst hx1
                -- W - 1 bits alike: 12 = W, 11 = W - 1, false = the bit, unW_one 12 b hb5 = its equation, 1 = the word
                have hul2 : (unW 12 1).length = 11 := rfl
                rw [hul2] at hle
                go_wp2_with fail
                go_loopw [24] (fun jv wi => ∃ (b : Nat), b ≤ 11 ∧ jv = .int .i64 ((j + b : Nat) : Int) ∧ Hid (Blk wi w5.heap.size 4 (bv (fillA Row false U (j + b))).toArray) ∧ Hid (Below w5.heap.size w5 wi)) (fun jv _ => j + 11 - (intOf jv).toNat)
                case atStart => exact ⟨0, Nat.zero_le _, rfl, HR, HB⟩
                case round =>
                  rename World => wi
                  clear HR HB cX
                  obtain ⟨b, hb, rfl, HR, HB⟩ := hrel
                  by_cases hb5 : b < 11
                  · -- bit b of a word is laid at j + b: false = the bit, unW_one 12 b hb5 = its equation, 11 = how many
                    obtain ⟨jb, hjb⟩ : ∃ q, q = j + b := ⟨_, rfl⟩
                    have hbit : Row[jb]? = some false := by rw [hjb]; exact (HAT.out b (by rw [hul2]; exact hb5)).trans (unW_one 12 b hb5)
                    have HR1 : Hid (Blk wi w5.heap.size 4 (bv (fillA Row false U jb)).toArray) := Lib.hid (by rw [hjb]; exact HR.out)
                    rw [← hjb]
                    have hjU : jb < U := by omega
                    have hjE : jb < j + 11 := by omega
                    have cO := HCO.out jb wi hjU HR1.out
                    have fO := HR1.out.frozen jb
                    have h2 := HR1.out.put jb (.bool false)
                    rw [bv_set, HFS.out jb false hjU hbit] at h2
                    have HR2 : Hid (Blk (wi.setCell ⟨w5.heap.size, jb, none⟩ (.bool false)) w5.heap.size 4 (bv (fillA Row false U (j + (b + 1)))).toArray) := Lib.hid (by rw [← Nat.add_assoc, ← hjb]; exact h2)
                    have HB2 := Lib.hid (HB.out.setCell (p := ⟨w5.heap.size, jb, none⟩) (Nat.le_refl _) (.bool false))
                    have HJB := Lib.hid hjb
                    clear hbit h2 HR1 HR HB hjb
                    go_wp2_with fail
                    go_roundw
                    case rel => exact ⟨b + 1, by omega, by have := HJB.out; exact congrArg (Value.int .i64) (by omega), HR2, HB2⟩
                    case measure => simp [intOf]; have := HJB.out; omega
                  · obtain rfl : b = 11 := by omega
                    have HJ2 : Hid (j + 11 = (unL 12 (DL.take (y + 1))).length) := Lib.hid (by rw [HNX.out, hul2])
                    go_wp2_with fail
                    go_roundw
                    case rel => exact ⟨y + 1, j + 11, by omega, by omega, by go_num, by go_num, HJ2, HR, HB⟩
                    case measure => simp [intOf]; omega
              · by_cases hx2 : x = 4094
                · subst hx2
                  -- W - 1 bits alike: 12 = W, 11 = W - 1, true = the bit, unW_mask 12 b (by decide) hb5 = its equation, 4094 = the word
                  have hul2 : (unW 12 4094).length = 11 := rfl
                  rw [hul2] at hle
                  go_wp2_with fail
                  go_loopw [24] (fun jv wi => ∃ (b : Nat), b ≤ 11 ∧ jv = .int .i64 ((j + b : Nat) : Int) ∧ Hid (Blk wi w5.heap.size 4 (bv (fillA Row false U (j + b))).toArray) ∧ Hid (Below w5.heap.size w5 wi)) (fun jv _ => j + 11 - (intOf jv).toNat)
                  case atStart => exact ⟨0, Nat.zero_le _, rfl, HR, HB⟩
                  case round =>
                    rename World => wi
                    clear HR HB cX
                    obtain ⟨b, hb, rfl, HR, HB⟩ := hrel
                    by_cases hb5 : b < 11
                    · -- bit b of a word is laid at j + b: true = the bit, unW_mask 12 b (by decide) hb5 = its equation, 11 = how many
                      obtain ⟨jb, hjb⟩ : ∃ q, q = j + b := ⟨_, rfl⟩
                      have hbit : Row[jb]? = some true := by rw [hjb]; exact (HAT.out b (by rw [hul2]; exact hb5)).trans (unW_mask 12 b (by decide) hb5)
                      have HR1 : Hid (Blk wi w5.heap.size 4 (bv (fillA Row false U jb)).toArray) := Lib.hid (by rw [hjb]; exact HR.out)
                      rw [← hjb]
                      have hjU : jb < U := by omega
                      have hjE : jb < j + 11 := by omega
                      have cO := HCO.out jb wi hjU HR1.out
                      have fO := HR1.out.frozen jb
                      have h2 := HR1.out.put jb (.bool true)
                      rw [bv_set, HFS.out jb true hjU hbit] at h2
                      have HR2 : Hid (Blk (wi.setCell ⟨w5.heap.size, jb, none⟩ (.bool true)) w5.heap.size 4 (bv (fillA Row false U (j + (b + 1)))).toArray) := Lib.hid (by rw [← Nat.add_assoc, ← hjb]; exact h2)
                      have HB2 := Lib.hid (HB.out.setCell (p := ⟨w5.heap.size, jb, none⟩) (Nat.le_refl _) (.bool true))
                      have HJB := Lib.hid hjb
                      clear hbit h2 HR1 HR HB hjb
                      go_wp2_with fail
                      go_roundw
                      case rel => exact ⟨b + 1, by omega, by have := HJB.out; exact congrArg (Value.int .i64) (by omega), HR2, HB2⟩
                      case measure => simp [intOf]; have := HJB.out; omega
                    · obtain rfl : b = 11 := by omega
                      have HJ2 : Hid (j + 11 = (unL 12 (DL.take (y + 1))).length) := Lib.hid (by rw [HNX.out, hul2])
                      go_wp2_with fail
                      go_roundw
                      case rel => exact ⟨y + 1, j + 11, by omega, by omega, by go_num, by go_num, HJ2, HR, HB⟩
                      case measure => simp [intOf]; omega
                · have n1 : ((x : Int) == 1) = false := by rw [beq_eq_false_iff_ne]; omega
                  have n62 : ((x : Int) == 4094) = false := by rw [beq_eq_false_iff_ne]; omega
                  have hst : isStuf 12 x = false := by
                    unfold isStuf
                    rw [Bool.or_eq_false_iff, beq_eq_false_iff_ne, beq_eq_false_iff_ne]
                    exact ⟨hx1, hx2⟩
                  have HST := Lib.hid hst
                  have hul2 : (unW 12 x).length = 12 := by
                    have h9 := unW_len 12 x (by decide)
                    rw [hst] at h9
                    exact h9
                  rw [hul2] at hle
                  clear hst
                  have hx4 : x < 4096 := by omega
                  go_wp2_with fail
                  go_loopw [20, 25] (fun jv bw wi => ∃ (b : Nat), b ≤ 12 ∧ jv = .int .i64 ((j + b : Nat) : Int) ∧ bw = .int .i64 (11 - (b : Int)) ∧ Hid (Blk wi w5.heap.size 4 (bv (fillA Row false U (j + b))).toArray) ∧ Hid (Below w5.heap.size w5 wi)) (fun _ bw _ => (intOf bw + 1).toNat)
                  case atStart => exact ⟨0, Nat.zero_le _, rfl, rfl, HR, HB⟩
                  case round =>
                    rename World => wi
                    clear HR HB cX
                    obtain ⟨b, hb, rfl, rfl, HR, HB⟩ := hrel
                    by_cases hb5 : b < 12
                    · obtain ⟨q, hq⟩ : ∃ q, q = 11 - b := ⟨_, rfl⟩
                      have eq1 : (11 : Int) - (b : Int) = (q : Int) := by omega
                      rw [eq1]
                      obtain ⟨tb, htb⟩ : ∃ tb, tb = x.testBit q := ⟨_, rfl⟩
                      have htb2 : (unW 12 x)[b]? = some tb := by rw [htb, hq]; exact unW_plain 12 x b HST.out hb5
                      have HTB := Lib.hid htb2
                      have eq2 : True := trivial
                      have HQ := Lib.hid hq
                      have hqb : q ≤ 11 := by omega
                      have hand := and_pow x q hx4 hqb
                      rw [← htb] at hand
                      clear htb htb2 hq eq1 eq2
                      -- bit b of a word is laid at j + b: tb = the bit, HTB.out = its equation, 12 = how many
                      obtain ⟨jb, hjb⟩ : ∃ q, q = j + b := ⟨_, rfl⟩
                      have hbit : Row[jb]? = some tb := by rw [hjb]; exact (HAT.out b (by rw [hul2]; exact hb5)).trans (HTB.out)
                      have HR1 : Hid (Blk wi w5.heap.size 4 (bv (fillA Row false U jb)).toArray) := Lib.hid (by rw [hjb]; exact HR.out)
                      rw [← hjb]
                      have hjU : jb < U := by omega
                      have hjE : jb < j + 12 := by omega
                      have cO := HCO.out jb wi hjU HR1.out
                      have fO := HR1.out.frozen jb
                      have h2 := HR1.out.put jb (.bool tb)
                      rw [bv_set, HFS.out jb tb hjU hbit] at h2
                      have HR2 : Hid (Blk (wi.setCell ⟨w5.heap.size, jb, none⟩ (.bool tb)) w5.heap.size 4 (bv (fillA Row false U (j + (b + 1)))).toArray) := Lib.hid (by rw [← Nat.add_assoc, ← hjb]; exact h2)
                      have HB2 := Lib.hid (HB.out.setCell (p := ⟨w5.heap.size, jb, none⟩) (Nat.le_refl _) (.bool tb))
                      have HJB := Lib.hid hjb
                      clear hbit h2 HR1 HR HB hjb
                      go_wp2_with fail
                      go_roundw
                      case rel => exact ⟨b + 1, by omega, by have := HJB.out; exact congrArg (Value.int .i64) (by omega), by have := HQ.out; exact congrArg (Value.int .i64) (by omega), HR2, HB2⟩
                      case measure => simp [intOf] <;> omega
                    · obtain rfl : b = 12 := by omega
                      have HJ2 : Hid (j + 12 = (unL 12 (DL.take (y + 1))).length) := Lib.hid (by rw [HNX.out, hul2])
                      go_wp2_with fail
                      go_roundw
                      case rel => exact ⟨y + 1, j + 12, by omega, by omega, rfl, by go_num, HJ2, HR, HB⟩
                      case measure => simp [intOf]; omega
            · obtain rfl : y = k := by omega
              have hjU : j = U := by
                have h9 := HJ.out
                have h8 : DL.take y = DL := by rw [← HDR.out.2.2.1, List.take_length]
                rw [h8, ← HDR.out.1, ← HDR.out.2.1] at h9
                exact h9
              subst hjU
              have hrow := HR.out
              rw [HDR.out.2.1, fill_full] at hrow
              have hrd : RdT wr 4 (.slice (some ⟨w5.heap.size, 0, none⟩) j j) (bv Row) := RdT.of_blk hrow (by rw [bv_len]; exact HDR.out.2.1) (by rw [bv_len, ← HDR.out.2.1]; exact Nat.le_refl _) (by unfold maxLen; omega)
              have HRD := Lib.hid hrd
              have HBF := Lib.hid (bup HB4.out HB.out)
              have hi0 : ¬ ((i : Int) = 0) := by omega
              clear hrow hrd HJ HR
              go_wp2_with fail
              go_ret2
              have e7 : ((100 * (i - y) : Nat) : Int) = 100 * ((i : Int) - (y : Int)) := by omega
              have e8 : ((100 * (E0.length - y) / E0.length : Nat) : Int) = 100 * ((i : Int) - (y : Int)) / (i : Int) := by rw [← HK0.out, ← e7]; exact Int.natCast_ediv _ _
              have hgo := corG_good HOO.out.symm (W := 12) HDATA.out
              rw [← HDR.out.2.2.2, ← HDR.out.1] at hgo
              unfold CorEnd
              rw [e8]
              exact ⟨.inl ⟨_, _, _, hgo, rfl, Blk.fresh wr _ _, HRD.out.up (bal (brf wr) _)⟩, bal HBF.out _⟩
end Go.Proofs.YtopfdmmimgnciaaGreatDoor
