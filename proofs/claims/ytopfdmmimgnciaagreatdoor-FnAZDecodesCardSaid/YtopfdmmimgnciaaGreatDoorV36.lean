/-
  WALKS: spec.AZLay (symbols with a grid).
-/
import Derived.Test.YtopfdmmimgnciaaGreatDoorV35
namespace Go.Proofs.YtopfdmmimgnciaaGreatDoor
open Go.RowKit

set_option maxRecDepth 100000 in
set_option maxHeartbeats 40000000 in
theorem lay_full (L : Nat) (v : Value) (ws : List Nat) (w : World) (hv : Rd w w.heap.size v (nv ws)) (hws : ws.length = capN false L / widN L) (hlt : ∀ x ∈ ws, x < 2 ^ widN L) (hL1 : 1 ≤ L) (hL : L ≤ 32) :
    Calls Tryz.prog 11 #[v, .bool false, .int .i64 L] w fun e w' => ∃ u G, e = .returned u ∧ RowsT w' u (rowsF (wholeN false L) (wholeN false L) G) ∧ takU false L G L = List.replicate (capN false L % widN L) false ++ wbits (widN L) ws ∧ Below w.heap.size w w' := by
  -- false = the kind, 12 = 9 or 12
  have hpl := places_any false L w hL1 hL
  obtain ⟨n, hn⟩ : ∃ n, n = wholeN false L := ⟨_, rfl⟩
  obtain ⟨S, hS⟩ : ∃ S, S = sideN false L := ⟨_, rfl⟩
  have hwl := wholeN_le false L hL
  have hsl := sideN_le false L hL
  have hNW : offN false L L = capN false L := by rw [offN_all]; rfl
  have hcap := capN_all L (by omega) hL1 false (by simp)
  obtain ⟨W, hW⟩ : ∃ W, W = widN L := ⟨_, rfl⟩
  obtain ⟨N, hN⟩ : ∃ N, N = capN false L := ⟨_, rfl⟩
  have hW12 := widN_le L
  have hWd := fun wq => azWidth_any L wq hL
  have hBt := fun wq => azBits_any false L wq hL
  rw [← hn, ← hS] at hpl
  rw [← hn] at hwl
  rw [← hS] at hsl
  rw [← hN] at hNW hBt hws hcap
  rw [← hW] at hcap hW12 hWd hws hlt
  rw [← hn, ← hN, ← hW]
  obtain ⟨R, hR⟩ : ∃ R, R = N % W := ⟨_, rfl⟩
  have hRW : R < W := by rw [hR]; exact Nat.mod_lt _ (by omega)
  have eR : Int.tmod (N : Int) (W : Int) = (R : Int) := by rw [Int.tmod_eq_emod_of_nonneg (by omega), hR]; rfl
  have hNR : N = R + W * ws.length := by rw [hR, hws]; have := Nat.div_add_mod N W; omega
  rw [← hR]
  obtain ⟨T, hT⟩ : ∃ T, T = List.replicate R false ++ wbits W ws := ⟨_, rfl⟩
  have hTl : T.length = N := by rw [hT, List.length_append, List.length_replicate, wbits_len]; omega
  rw [← hT]
  have hN2 : N ≤ 19968 := hcap.2.1
  obtain ⟨K, hK⟩ : ∃ K, K = ws.length := ⟨_, rfl⟩
  have hK2 : K ≤ 1664 := by rw [hK, hws]; exact hcap.2.2.1
  have hK8 : 8 ≤ K := by rw [hK, hws]; exact hcap.2.2.2
  have hKW : W * K ≤ 20000 := by rw [hK]; omega
  have HT := Lib.hid hT
  have HTL := Lib.hid hTl
  have HLT := Lib.hid hlt
  have HNN := Lib.hid hn
  have HSS := Lib.hid hS
  have HNW := Lib.hid hNW
  have HNR := Lib.hid hNR
  have HKK := Lib.hid hK
  have HWd := Lib.hid hWd
  have HBt := Lib.hid hBt
  have HPL := Lib.hid hpl
  obtain ⟨A, ca, rfl, ha1, ha2, ha3⟩ := hv
  simp only [nv_len] at ha1 ha3 ⊢
  rw [← hK] at ha1 ha3 ⊢
  unfold maxLen at ha2
  have HA := Lib.hid ha3
  clear hT hTl hlt hn hS hNW hNR hK hWd hBt hpl ha3 hcap hws hW hN hR
  go_enter Tryz.func11, Tryz.ntmps11
  go_wp2_with fail
  refine HPL.out.mono ?_
  rintro e w1 ⟨g1, rfl, hP, hg1, hb1⟩
  have HP := Lib.hid hP
  have HB1 := Lib.hid hb1
  have HG1 := Lib.hid hg1
  have hg1l := hP.lt
  clear hP hb1 hg1 HPL
  go_wp2_with fail
  refine (blankRows_any n w1 (by omega)).mono ?_
  rintro e w2 ⟨bs, rfl, hbl, hM, hb2⟩
  have HM2 := Lib.hid hM
  have HBL := Lib.hid hbl
  have HB2 := Lib.hid hb2
  obtain ⟨g2, hg2⟩ : ∃ g, g = w1.heap.size := ⟨_, rfl⟩
  rw [← hg2] at HM2 hg1l ⊢
  have HG2 := Lib.hid hg2
  clear hM hbl hb2 hg2
  go_wp2_with fail
  refine (HWd.out _).mono ?_
  rintro e w2 ⟨rfl, rfl⟩
  clear HWd
  go_wp2_with fail
  refine (HBt.out _).mono ?_
  rintro e w2 ⟨rfl, rfl⟩
  clear HBt
  have nW : ¬ ((W : Int) = 0) := by omega
  have nWn : ¬ (W = 0) := by omega
  have hmkb := fun a => mk_bools R a (by omega)
  go_wp2_with fail
  clear hmkb nW nWn eR
  obtain ⟨q0, hq0⟩ : ∃ q, q = w2.heap.size := ⟨_, rfl⟩
  have hWr : Hid (WrB ((w2.alloc (.cells (bv (List.replicate R false)).toArray 4)).alloc (.cells #[.slice (some ⟨w2.heap.size, 0, none⟩) R R, .string ⟨#[]⟩, .int .i64 ((0 : Nat) : Int)] 74)) (q0 + 1) q0 (List.replicate R false ++ wbits W (ws.take 0)) ⟨#[]⟩ 0 R) := Lib.hid (by
    rw [hq0]
    have h1 := Blk.fresh w2 4 (bv (List.replicate R false)).toArray
    refine ⟨⟨_, Blk.fresh' (by simp), ?_, by simp [Value.ownBlock]⟩, by simp [wbits], by omega⟩
    have h2 := own_bv h1 (Nat.le_refl _) (by rw [List.length_replicate]; unfold maxLen; omega)
    rw [List.length_replicate] at h2
    rw [show List.replicate R false ++ wbits W (ws.take 0) = List.replicate R false by simp [wbits]]
    exact own_up h2 (bal (brf _) _))
  have hBw : Hid (Below q0 w2 ((w2.alloc (.cells (bv (List.replicate R false)).toArray 4)).alloc (.cells #[.slice (some ⟨w2.heap.size, 0, none⟩) R R, .string ⟨#[]⟩, .int .i64 ((0 : Nat) : Int)] 74))) := Lib.hid (by rw [hq0]; exact bal (bal (brf w2) _) _)
  have HQ0 := Lib.hid hq0
  clear hq0
  have HBW : Hid (Below w.heap.size w w2) := Lib.hid (HB1.out.trans (HB2.out.mono HB1.out.size))
  have hwq : w.heap.size ≤ q0 := by rw [HQ0.out]; exact HBW.out.size
  rw [← HQ0.out] at hWr hBw ⊢
  go_loopw [14] (fun iv wr => ∃ (i z : Nat), i ≤ K ∧ iv = .int .i64 (i : Int) ∧ z ≤ 40000 ∧ Hid (z = R + W * i) ∧ Hid (WrB wr (q0 + 1) q0 (List.replicate R false ++ wbits W (ws.take i)) ⟨#[]⟩ 0 z) ∧ Hid (Below q0 w2 wr)) (fun iv _ => K - (intOf iv).toNat)
  case atStart => exact ⟨0, R, Nat.zero_le _, rfl, by omega, Lib.hid (by omega), hWr, hBw⟩
  case round =>
    clear hWr hBw
    obtain ⟨i, z, hi, rfl, hz, HZ, HW, HB⟩ := hrel
    by_cases hlt : i < K
    · obtain ⟨ba, oa, rfl, hba, hca⟩ := HA.out (by omega)
      have hil : i < ws.length := by rw [← HKK.out]; exact hlt
      have HBr : Hid (Below w.heap.size w wr) := Lib.hid (HBW.out.trans (HB.out.mono hwq))
      have cX := cell_up (hca i _ (nv_at ws i hil)) HBr.out
      have hx := HLT.out _ (List.getElem_mem hil)
      have hp2 : 2 ^ W ≤ 2 ^ 12 := Nat.pow_le_pow_right (by decide) hW12.2
      have hnx : wbits W (ws.take (i + 1)) = wbits W (ws.take i) ++ putL ws[i] W := by rw [List.take_succ_eq_append_getElem hil, wbits_snoc]
      have hzi : W * (i + 1) ≤ W * K := Nat.mul_le_mul_left W hlt
      have hzs : W * (i + 1) = W * i + W := Nat.mul_succ W i
      have hz2 : z + W ≤ 40000 := by have := HZ.out; omega
      have HZ2 : Hid (z + W = R + W * (i + 1)) := Lib.hid (by have := HZ.out; omega)
      have hpt := putB_any (q0 + 1) q0 ws[i] W z (List.replicate R false ++ wbits W (ws.take i)) ⟨#[]⟩ 0 q0 wr HW.out (by omega) (by omega) (by omega) (Nat.le_refl _)
      rw [List.append_assoc, ← hnx] at hpt
      generalize ws[i] = x at *
      have HPT := Lib.hid hpt
      clear hca hx hp2 hnx hzi hzs hpt HZ HW
      go_wp2_with fail
      refine HPT.out.mono ?_
      rintro e w3 ⟨rfl, hw3, hb3, hs3, -⟩
      have HW3 := Lib.hid hw3
      have HB3 := Lib.hid (HB.out.trans hb3)
      clear hw3 hb3 hs3 HPT HB HBr
      go_wp2_with fail
      go_roundw
      case rel => exact ⟨i + 1, z + W, by omega, by go_num, hz2, HZ2, HW3, HB3⟩
      case measure => simp [intOf]; omega
    · have hiK : K = i := by omega
      subst hiK
      rename World => w5
      have hW5 := HW.out
      rw [show ws.take K = ws by rw [HKK.out, List.take_length], ← HT.out] at hW5
      obtain ⟨vb, hbp, hob, hap⟩ := hW5.own
      have hzN : N = z := by rw [hW5.len]; exact HTL.out.symm
      subst hzN
      obtain ⟨Ab, cb, rfl, kb1, kb2, kb3⟩ := RdT.of_own hob
      rw [bv_len, HTL.out] at kb1 kb3
      have h0N : 0 < N := by rw [HNR.out, ← HKK.out]; have : 0 < W * K := Nat.mul_pos (by omega) (by omega); omega
      obtain ⟨gb, ob, csb, frb, rfl, hhb, hcb⟩ := kb3 h0N
      rw [bv_len, HTL.out] at hbp
      have hgbq : q0 ≤ gb := by
        rcases hob.2 with ⟨h, _⟩ | ⟨g, cap, cur, hv, hb, _⟩
        · cases h
        · injection hv with h1; injection h1 with h1; injection h1 with h1; omega
      have hM5 := HM2.out.up (by rw [← HQ0.out]; exact HB.out)
      have HBK : Hid (∀ i, i < bs.length → g2 < bs.getD i 0 ∧ bs.getD i 0 < q0) := Lib.hid (fun i hi => ⟨HM2.out.above i hi, by rw [HQ0.out]; exact HM2.out.lt i hi⟩)
      have hB5 := HBW.out.trans (HB.out.mono hwq)
      have HCP : Hid (w5.cell? ⟨q0 + 1, 0, none⟩ = some (.slice (some ⟨gb, ob, none⟩) N cb)) := Lib.hid (by rw [hbp.cell]; rfl)
      have HCT : Hid (∀ (j : Nat) (b : Bool), T[j]? = some b → w5.cell? ⟨gb, ob + j, none⟩ = some (.bool b)) := Lib.hid (fun j b hj => by
        have h1 := (List.getElem?_eq_some_iff.1 hj).1
        have h2 := hcb j (.bool b) (by unfold bv; rw [List.getElem?_map, hj]; rfl)
        rw [World.cell?, hhb]; exact h2)
      have HCC : Hid (∀ q, q < S → w5.cell? ⟨g1, q, none⟩ = some (.int .i64 ((placeN false L q : Nat) : Int))) := Lib.hid (fun q hq => by
        have h1 := (HP.out.up HB2.out).up (by rw [← HQ0.out]; exact HB.out)
        rw [h1.cell, nvl_getD _ _ (by rw [placesL_len, ← HSS.out]; exact hq), placesL_at false L q (by rw [← HSS.out]; exact hq)])
      have HR0 : Hid (LayR false L T g2 n bs w w5 w5 w.heap.size 0) := Lib.hid ⟨_, hM5, Laid.zero _ _ _ _, fun _ _ => rfl, hB5⟩
      have hgg : g1 < g2 := hg1l
      unfold maxLen at kb2
      clear hcb hhb kb3 hap hob hM5 hB5 hbp hW5 HW HB
      go_wp2_with fail
      go_loopw [15, 16] (fun tv iv wr => ∃ (t i : Nat), i ≤ L ∧ t ≤ 40000 ∧ tv = .int .i64 (t : Int) ∧ iv = .int .i64 (i : Int) ∧ Hid (t = offN false L i) ∧ Hid (LayR false L T g2 n bs w w5 wr w.heap.size t)) (fun _ iv _ => L - (intOf iv).toNat)
      case atStart => exact ⟨0, 0, Nat.zero_le _, Nat.zero_le _, rfl, rfl, Lib.hid rfl, HR0⟩
      case round =>
        clear HR0
        obtain ⟨t1, i, hiL, ht1, rfl, rfl, HT1, HR1⟩ := hrel
        by_cases hlt : i < L
        · have hll := long_side false L i hlt
          rw [← HSS.out] at hll
          have hlc : longN false L i = 4 * (L - i) + 12 := rfl
          have hoN : offN false L (i + 1) ≤ N := by have h9 := offN_mono false L (i + 1) L hlt; rw [HNW.out] at h9; exact h9
          have hoS := offN_succ false L i
          rw [← HT1.out] at hoS
          obtain ⟨l, hl⟩ : ∃ l, l = longN false L i := ⟨_, rfl⟩
          rw [← hl] at hll hlc hoS
          have hl140 : l ≤ 142 := by omega
          have htN : t1 + 8 * l ≤ N := by omega
          have HL := Lib.hid hl
          have HOS := Lib.hid hoS
          have e4a : (4 : Int) * ((L : Int) - (i : Int)) + 12 = (l : Int) := by omega
          obtain ⟨lo, hlo⟩ : ∃ x, x = 2 * i := ⟨_, rfl⟩
          obtain ⟨S1, hS1⟩ : ∃ x, x = S - 1 := ⟨_, rfl⟩
          obtain ⟨hh, hhh⟩ : ∃ x, x = S1 - lo := ⟨_, rfl⟩
          have HLO := Lib.hid (And.intro hlo (And.intro hS1 hhh))
          have b1 : lo + l + 2 ≤ S := by omega
          have b2 : l ≤ hh := by omega
          have b3 : hh < S := by omega
          have b4 : lo ≤ 64 := by omega
          clear hlo hS1 hhh hl hlc hoS hoN hll
          go_wp2_with fail
          clear e4a
          obtain ⟨wa, rfl⟩ : ∃ wo : World, wo = wr := ⟨_, rfl⟩
          go_loopw [15, 18] (fun tv kv wr => ∃ (t k : Nat), k ≤ 4 ∧ t ≤ 40000 ∧ tv = .int .i64 (t : Int) ∧ kv = .int .i64 (k : Int) ∧ Hid (t = t1 + k * (2 * l)) ∧ Hid (LayR false L T g2 n bs w w5 wr w.heap.size t)) (fun _ kv _ => 4 - (intOf kv).toNat)
          case atStart => exact ⟨t1, 0, Nat.zero_le _, ht1, rfl, rfl, Lib.hid (by omega), HR1⟩
          case round =>
            rename World => wb
            clear HR1
            obtain ⟨t2, k, hk4, ht2, rfl, rfl, HT2, HR2⟩ := hrel
            by_cases hkl : k < 4
            · have htN2 : t2 + 2 * l ≤ N := by
                have h9 := HT2.out
                have hc : k = 0 ∨ k = 1 ∨ k = 2 ∨ k = 3 := by omega
                rcases hc with rfl | rfl | rfl | rfl <;> omega
              have hki : (k : Int) < 4 := by omega
              go_wp2_with fail
              go_loopw [15, 19] (fun tv jv wr => ∃ (t j : Nat), j ≤ l ∧ t ≤ 40000 ∧ tv = .int .i64 (t : Int) ∧ jv = .int .i64 (j : Int) ∧ Hid (t = t2 + 2 * j) ∧ Hid (LayR false L T g2 n bs w w5 wr w.heap.size t)) (fun _ jv _ => l - (intOf jv).toNat)
              case atStart => exact ⟨t2, 0, Nat.zero_le _, ht2, rfl, rfl, Lib.hid (by omega), HR2⟩
              case round =>
                rename World => wc
                clear HR2
                obtain ⟨t3, j, hjl, ht3, rfl, rfl, HT3, HR3⟩ := hrel
                by_cases hjlt : j < l
                · have htN3 : t3 + 2 ≤ N := by have h9 := HT3.out; omega
                  go_wp2_with fail
                  go_loopw [15, 20] (fun tv mv wr => ∃ (t m : Nat), m ≤ 2 ∧ t ≤ 40000 ∧ tv = .int .i64 (t : Int) ∧ mv = .int .i64 (m : Int) ∧ Hid (t = t3 + m) ∧ Hid (LayR false L T g2 n bs w w5 wr w.heap.size t)) (fun _ mv _ => 2 - (intOf mv).toNat)
                  case atStart => exact ⟨t3, 0, Nat.zero_le _, ht3, rfl, rfl, Lib.hid (by omega), HR3⟩
                  case round =>
                    rename World => wd
                    clear HR3
                    obtain ⟨t4, m, hm2, ht4, rfl, rfl, HT4, HR4⟩ := hrel
                    by_cases hmlt : m < 2
                    · have htN4 : t4 < N := by have h9 := HT4.out; omega
                      obtain ⟨qq, hqq⟩ : ∃ x, x = 2 * j + m := ⟨_, rfl⟩
                      have HQQ := Lib.hid hqq
                      clear hqq
                      have q1 : (2 : Int) * (i : Int) = (lo : Int) := by have h9 := HLO.out.1; omega
                      have q1w : IntKind.i64.wrap (lo : Int) = (lo : Int) := by rw [IntKind.wrap_i64]; omega
                      have q2 : (S : Int) - 1 = (S1 : Int) := by have h9 := HLO.out.2.1; omega
                      have q2w : IntKind.i64.wrap (S1 : Int) = (S1 : Int) := by rw [IntKind.wrap_i64]; have h9 := HLO.out.2.1; omega
                      have q3 : (S1 : Int) - (lo : Int) = (hh : Int) := by have h9 := HLO.out; omega
                      have q3w : IntKind.i64.wrap (hh : Int) = (hh : Int) := by rw [IntKind.wrap_i64]; omega
                      obtain ⟨I0, hI0⟩ : ∃ x, x = lo + m := ⟨_, rfl⟩
                      obtain ⟨I1, hI1⟩ : ∃ x, x = lo + j := ⟨_, rfl⟩
                      obtain ⟨I2, hI2⟩ : ∃ x, x = hh - m := ⟨_, rfl⟩
                      obtain ⟨I3, hI3⟩ : ∃ x, x = hh - j := ⟨_, rfl⟩
                      have q4 : (lo : Int) + (m : Int) = (I0 : Int) := by omega
                      have q4w : IntKind.i64.wrap (I0 : Int) = (I0 : Int) := by rw [IntKind.wrap_i64]; omega
                      have q5 : (hh : Int) - (m : Int) = (I2 : Int) := by omega
                      have q5w : IntKind.i64.wrap (I2 : Int) = (I2 : Int) := by rw [IntKind.wrap_i64]; omega
                      have q6 : (lo : Int) + (j : Int) = (I1 : Int) := by omega
                      have q6w : IntKind.i64.wrap (I1 : Int) = (I1 : Int) := by rw [IntKind.wrap_i64]; omega
                      have q7 : (hh : Int) - (j : Int) = (I3 : Int) := by omega
                      have q7w : IntKind.i64.wrap (I3 : Int) = (I3 : Int) := by rw [IntKind.wrap_i64]; omega
                      have r0 : I0 < S := by omega
                      have r1 : I1 < S := by omega
                      have r2 : I2 < S := by omega
                      have r3 : I3 < S := by omega
                      have hne1 : ∀ i, i < bs.length → bs.getD i 0 ≠ g1 := fun i hi => by have h9 := (HBK.out i hi).1; omega
                      have c0 := HR4.out.cell (HCC.out I0 r0) hne1
                      have c1 := HR4.out.cell (HCC.out I1 r1) hne1
                      have c2 := HR4.out.cell (HCC.out I2 r2) hne1
                      have c3 := HR4.out.cell (HCC.out I3 r3) hne1
                      have p0 : placeN false L I0 < n := by rw [HNN.out]; exact placeN_lt false L I0 (by rw [← HSS.out]; exact r0)
                      have p1 : placeN false L I1 < n := by rw [HNN.out]; exact placeN_lt false L I1 (by rw [← HSS.out]; exact r1)
                      have p2 : placeN false L I2 < n := by rw [HNN.out]; exact placeN_lt false L I2 (by rw [← HSS.out]; exact r2)
                      have p3 : placeN false L I3 < n := by rw [HNN.out]; exact placeN_lt false L I3 (by rw [← HSS.out]; exact r3)
                      obtain ⟨A0, hA0⟩ : ∃ x, x = placeN false L I0 := ⟨_, rfl⟩
                      obtain ⟨A1, hA1⟩ : ∃ x, x = placeN false L I1 := ⟨_, rfl⟩
                      obtain ⟨A2, hA2⟩ : ∃ x, x = placeN false L I2 := ⟨_, rfl⟩
                      obtain ⟨A3, hA3⟩ : ∃ x, x = placeN false L I3 := ⟨_, rfl⟩
                      rw [← hA0] at c0 p0
                      rw [← hA1] at c1 p1
                      rw [← hA2] at c2 p2
                      rw [← hA3] at c3 p3
                      have hqm : qq % 2 = m := by have := HQQ.out; omega
                      have hqd : qq / 2 = j := by have := HQQ.out; omega
                      have hps := pos_cases (sideN false L) i k qq hkl
                      rw [hqm, hqd, ← HSS.out] at hps
                      have HPS := Lib.hid hps
                      have HLA := Lib.hid HLO.out
                      have HAA := Lib.hid (And.intro hA0 (And.intro hA1 (And.intro hA2 hA3)))
                      have HII := Lib.hid (And.intro hI0 (And.intro hI1 (And.intro hI2 hI3)))
                      clear hps hqm hqd hA0 hA1 hA2 hA3 hI0 hI1 hI2 hI3 hne1
                      go_wp2_with fail
                      refine Can.wp_region_can (fun w' => w'.cell? ⟨g1, I0, none⟩ = some (.int .i64 (A0 : Int)) ∧ w'.cell? ⟨g1, I2, none⟩ = some (.int .i64 (A2 : Int))) 999 [0, 1, 2, 3, 4, 5, 6, 7, 8, 9, 10, 11, 12, 13, 14, 15, 16, 17, 18] (by kernel_rfl) (by kernel_rfl) (fun _ _ d _ _ h => by cases d <;> exact h) ⟨c0, c2⟩ (fun hHeld => ?_)
                      repeat (refine Can.can_pure (v := ?_) rfl rfl (Or.inl ⟨by rfl, ?_⟩) ?_; rotate_left; (focus ((intro w hSw); (try dsimp only at hSw); go_simp; (try with_reducible rfl))); (try simp only [Act.put, List.getElem_toArray, List.getElem_cons_succ, List.getElem_cons_zero, List.setIfInBounds_toArray, List.set_cons_zero, List.set_cons_succ]))
                      refine Can.can_done ?_
                      clear hHeld
                      go_wp2_with fail
                      refine Can.wp_region_can (fun w' => w'.cell? ⟨g1, I1, none⟩ = some (.int .i64 (A1 : Int)) ∧ w'.cell? ⟨g1, I3, none⟩ = some (.int .i64 (A3 : Int))) 999 [0, 1, 2, 3, 4, 5, 6, 7, 8, 9, 10, 11, 12, 13, 14, 15, 16, 17, 18] (by kernel_rfl) (by kernel_rfl) (fun _ _ d _ _ h => by cases d <;> exact h) ⟨c1, c3⟩ (fun hHeld => ?_)
                      repeat (refine Can.can_pure (v := ?_) rfl rfl (Or.inl ⟨by rfl, ?_⟩) ?_; rotate_left; (focus ((intro w hSw); (try dsimp only at hSw); go_simp; (try with_reducible rfl))); (try simp only [Act.put, List.getElem_toArray, List.getElem_cons_succ, List.getElem_cons_zero, List.setIfInBounds_toArray, List.set_cons_zero, List.set_cons_succ]))
                      refine Can.can_done ?_
                      clear hHeld c0 c1 c2 c3 q1 q2 q3 q4 q5 q6 q7 q1w q2w q3w q4w q5w q6w q7w
                      have HR4b := Lib.hid HR4.out.drew.drew
                      clear HR4
                      go_upto_region 29 with fail
                      go_cut [25, 26] (fun xv yv wx => xv = .int .i64 (A0 : Int) ∧ yv = .int .i64 (A1 : Int) ∧ wx = wd.drew.drew)
                      case first => as_aux_lemma =>
                        go_wp2_with fail
                        go_meet
                        exact ⟨rfl, rfl, rfl⟩
                      case rest =>
                        obtain ⟨rfl, rfl, hwx⟩ := hcut
                        rename World => we
                        rw [← hwx] at HR4b
                        clear hwx
                        have HT5 : Hid (t4 + 1 = t3 + (m + 1)) := Lib.hid (by have h9 := HT4.out; omega)
                        have hkc : k = 0 ∨ k = 1 ∨ k = 2 ∨ k = 3 := by omega
                        rcases hkc with hke | hke | hke | hke
                        · have HKE := Lib.hid hke
                          have n1 : ((k : Int) == 1) = false := by rw [hke]; rfl
                          have n2 : ((k : Int) == 2) = false := by rw [hke]; rfl
                          have n3 : ((k : Int) == 3) = false := by rw [hke]; rfl
                          clear hke
                          have hX : A0 = placeN false L (pX S i k qq) := by
                            have h5 : pX S i k qq = I0 := by have h6 := HPS.out; have h7 := HKE.out; have h8 := HLA.out; have h9 := HII.out; omega
                            rw [h5]; exact HAA.out.1
                          have hY : A1 = placeN false L (pY S i k qq) := by
                            have h5 : pY S i k qq = I1 := by have h6 := HPS.out; have h7 := HKE.out; have h8 := HLA.out; have h9 := HII.out; omega
                            rw [h5]; exact HAA.out.2.1
                          have hql : qq < 2 * longN false L i := by rw [← HL.out, HQQ.out]; omega
                          have ht4e : t4 = offN false L i + k * (2 * longN false L i) + qq := by
                            rw [← HL.out, ← HT1.out, HQQ.out]
                            have h7 := HT2.out; have h8 := HT3.out; have h9 := HT4.out; omega
                          obtain ⟨bt, hbt⟩ : ∃ b, T[t4]? = some b := ⟨_, List.getElem?_eq_getElem (by rw [HTL.out]; exact htN4)⟩
                          have dT := HR4b.out.cell (HCT.out t4 bt hbt) (fun i hi => by have h9 := (HBK.out i hi).2; omega)
                          have dP := HR4b.out.cell HCP.out (fun i hi => by have h9 := (HBK.out i hi).2; omega)
                          have hYb : A1 < bs.length := by rw [HBL.out]; exact p1
                          have HN := Lib.hid (HR4b.out.put hlt hkl hql ht4e hbt (by rw [← HSS.out]; exact hX) (by rw [← HSS.out]; exact hY) p0 hYb (fun i hi => by have h9 := (HBK.out i hi).1; have h8 := HG1.out; omega))
                          obtain ⟨d1, b0, d2, f2⟩ := HR4b.out.at_ p0 hYb
                          clear HR4b hbt ht4e hql hYb hX hY
                          generalize bs.getD A1 0 = Q at *
                          go_wp2_with fail
                          go_upto_region 37 with fail
                          go_cut [25] (fun xv wx => xv = .int .i64 (A0 : Int) ∧ Hid (LayR false L T g2 n bs w w5 wx w.heap.size (t4 + 1)))
                          case first => as_aux_lemma =>
                            refine Can.wp_region_can (fun w' => w'.cell? ⟨g2, A1, none⟩ = some (.slice (some ⟨Q, 0, none⟩) n n) ∧ w'.cell? ⟨q0 + 1, 0, none⟩ = some (.slice (some ⟨gb, ob, none⟩) N cb) ∧ w'.cell? ⟨gb, ob + t4, none⟩ = some (.bool bt) ∧ w'.cell? ⟨Q, A0, none⟩ = some (.bool b0) ∧ w'.frozen? ⟨Q, A0, none⟩ = false) 13 [0, 1, 2, 3, 4, 5, 6, 7, 8, 9, 10, 11, 12, 13] (by kernel_rfl) (by kernel_rfl) (fun _ _ d _ _ h => by cases d <;> exact h) ⟨d1, dP, dT, d2, f2⟩ (fun hHeld => ?_)
                            repeat (refine Can.can_pure (v := ?_) rfl rfl (Or.inl ⟨by rfl, ?_⟩) ?_; rotate_left; (focus ((intro w hSw); (try dsimp only at hSw); go_simp; (try with_reducible rfl))); (try simp only [Act.put, List.getElem_toArray, List.getElem_cons_succ, List.getElem_cons_zero, List.setIfInBounds_toArray, List.set_cons_zero, List.set_cons_succ]))
                            have f1 := hHeld.2.2.2.2
                            have c9 := hHeld.2.2.2.1
                            refine Can.can_tail rfl rfl (by rfl) (fun K hK => ?_)
                            go_simp
                            refine hK.out _ _ ?_
                            clear hK K
                            clear hHeld f1 c9 d1 d2 f2 dP dT n1 n2 n3
                            go_wp2_with fail
                            go_meet
                            exact ⟨rfl, HN⟩
                          case rest =>
                            obtain ⟨rfl, HN2⟩ := hcut
                            clear HN d1 d2 f2 dP dT n1 n2 n3
                            go_wp2_with fail
                            go_roundw
                            case rel => exact ⟨t4 + 1, m + 1, by omega, by omega, by go_num, by go_num, HT5, HN2⟩
                            case measure => simp [intOf]; omega
                        · have HKE := Lib.hid hke
                          have n1 : ((k : Int) == 1) = true := by rw [hke]; rfl
                          have n2 : ((k : Int) == 2) = false := by rw [hke]; rfl
                          have n3 : ((k : Int) == 3) = false := by rw [hke]; rfl
                          clear hke
                          have hX : A1 = placeN false L (pX S i k qq) := by
                            have h5 : pX S i k qq = I1 := by have h6 := HPS.out; have h7 := HKE.out; have h8 := HLA.out; have h9 := HII.out; omega
                            rw [h5]; exact HAA.out.2.1
                          have hY : A2 = placeN false L (pY S i k qq) := by
                            have h5 : pY S i k qq = I2 := by have h6 := HPS.out; have h7 := HKE.out; have h8 := HLA.out; have h9 := HII.out; omega
                            rw [h5]; exact HAA.out.2.2.1
                          have hql : qq < 2 * longN false L i := by rw [← HL.out, HQQ.out]; omega
                          have ht4e : t4 = offN false L i + k * (2 * longN false L i) + qq := by
                            rw [← HL.out, ← HT1.out, HQQ.out]
                            have h7 := HT2.out; have h8 := HT3.out; have h9 := HT4.out; omega
                          obtain ⟨bt, hbt⟩ : ∃ b, T[t4]? = some b := ⟨_, List.getElem?_eq_getElem (by rw [HTL.out]; exact htN4)⟩
                          have dT := HR4b.out.cell (HCT.out t4 bt hbt) (fun i hi => by have h9 := (HBK.out i hi).2; omega)
                          have dP := HR4b.out.cell HCP.out (fun i hi => by have h9 := (HBK.out i hi).2; omega)
                          have hYb : A2 < bs.length := by rw [HBL.out]; exact p2
                          have HN := Lib.hid (HR4b.out.put hlt hkl hql ht4e hbt (by rw [← HSS.out]; exact hX) (by rw [← HSS.out]; exact hY) p1 hYb (fun i hi => by have h9 := (HBK.out i hi).1; have h8 := HG1.out; omega))
                          obtain ⟨d1, b0, d2, f2⟩ := HR4b.out.at_ p1 hYb
                          clear HR4b hbt ht4e hql hYb hX hY
                          generalize bs.getD A2 0 = Q at *
                          go_wp2_with fail
                          go_upto_region 37 with fail
                          go_cut [25] (fun xv wx => xv = .int .i64 (A1 : Int) ∧ Hid (LayR false L T g2 n bs w w5 wx w.heap.size (t4 + 1)))
                          case first => as_aux_lemma =>
                            refine Can.wp_region_can (fun w' => w'.cell? ⟨g2, A2, none⟩ = some (.slice (some ⟨Q, 0, none⟩) n n) ∧ w'.cell? ⟨q0 + 1, 0, none⟩ = some (.slice (some ⟨gb, ob, none⟩) N cb) ∧ w'.cell? ⟨gb, ob + t4, none⟩ = some (.bool bt) ∧ w'.cell? ⟨Q, A1, none⟩ = some (.bool b0) ∧ w'.frozen? ⟨Q, A1, none⟩ = false) 13 [0, 1, 2, 3, 4, 5, 6, 7, 8, 9, 10, 11, 12, 13] (by kernel_rfl) (by kernel_rfl) (fun _ _ d _ _ h => by cases d <;> exact h) ⟨d1, dP, dT, d2, f2⟩ (fun hHeld => ?_)
                            repeat (refine Can.can_pure (v := ?_) rfl rfl (Or.inl ⟨by rfl, ?_⟩) ?_; rotate_left; (focus ((intro w hSw); (try dsimp only at hSw); go_simp; (try with_reducible rfl))); (try simp only [Act.put, List.getElem_toArray, List.getElem_cons_succ, List.getElem_cons_zero, List.setIfInBounds_toArray, List.set_cons_zero, List.set_cons_succ]))
                            have f1 := hHeld.2.2.2.2
                            have c9 := hHeld.2.2.2.1
                            refine Can.can_tail rfl rfl (by rfl) (fun K hK => ?_)
                            go_simp
                            refine hK.out _ _ ?_
                            clear hK K
                            clear hHeld f1 c9 d1 d2 f2 dP dT n1 n2 n3
                            go_wp2_with fail
                            go_meet
                            exact ⟨rfl, HN⟩
                          case rest =>
                            obtain ⟨rfl, HN2⟩ := hcut
                            clear HN d1 d2 f2 dP dT n1 n2 n3
                            go_wp2_with fail
                            go_roundw
                            case rel => exact ⟨t4 + 1, m + 1, by omega, by omega, by go_num, by go_num, HT5, HN2⟩
                            case measure => simp [intOf]; omega
                        · have HKE := Lib.hid hke
                          have n1 : ((k : Int) == 1) = false := by rw [hke]; rfl
                          have n2 : ((k : Int) == 2) = true := by rw [hke]; rfl
                          have n3 : ((k : Int) == 3) = false := by rw [hke]; rfl
                          clear hke
                          have hX : A2 = placeN false L (pX S i k qq) := by
                            have h5 : pX S i k qq = I2 := by have h6 := HPS.out; have h7 := HKE.out; have h8 := HLA.out; have h9 := HII.out; omega
                            rw [h5]; exact HAA.out.2.2.1
                          have hY : A3 = placeN false L (pY S i k qq) := by
                            have h5 : pY S i k qq = I3 := by have h6 := HPS.out; have h7 := HKE.out; have h8 := HLA.out; have h9 := HII.out; omega
                            rw [h5]; exact HAA.out.2.2.2
                          have hql : qq < 2 * longN false L i := by rw [← HL.out, HQQ.out]; omega
                          have ht4e : t4 = offN false L i + k * (2 * longN false L i) + qq := by
                            rw [← HL.out, ← HT1.out, HQQ.out]
                            have h7 := HT2.out; have h8 := HT3.out; have h9 := HT4.out; omega
                          obtain ⟨bt, hbt⟩ : ∃ b, T[t4]? = some b := ⟨_, List.getElem?_eq_getElem (by rw [HTL.out]; exact htN4)⟩
                          have dT := HR4b.out.cell (HCT.out t4 bt hbt) (fun i hi => by have h9 := (HBK.out i hi).2; omega)
                          have dP := HR4b.out.cell HCP.out (fun i hi => by have h9 := (HBK.out i hi).2; omega)
                          have hYb : A3 < bs.length := by rw [HBL.out]; exact p3
                          have HN := Lib.hid (HR4b.out.put hlt hkl hql ht4e hbt (by rw [← HSS.out]; exact hX) (by rw [← HSS.out]; exact hY) p2 hYb (fun i hi => by have h9 := (HBK.out i hi).1; have h8 := HG1.out; omega))
                          obtain ⟨d1, b0, d2, f2⟩ := HR4b.out.at_ p2 hYb
                          clear HR4b hbt ht4e hql hYb hX hY
                          generalize bs.getD A3 0 = Q at *
                          go_wp2_with fail
                          go_upto_region 37 with fail
                          go_cut [25] (fun xv wx => xv = .int .i64 (A2 : Int) ∧ Hid (LayR false L T g2 n bs w w5 wx w.heap.size (t4 + 1)))
                          case first => as_aux_lemma =>
                            refine Can.wp_region_can (fun w' => w'.cell? ⟨g2, A3, none⟩ = some (.slice (some ⟨Q, 0, none⟩) n n) ∧ w'.cell? ⟨q0 + 1, 0, none⟩ = some (.slice (some ⟨gb, ob, none⟩) N cb) ∧ w'.cell? ⟨gb, ob + t4, none⟩ = some (.bool bt) ∧ w'.cell? ⟨Q, A2, none⟩ = some (.bool b0) ∧ w'.frozen? ⟨Q, A2, none⟩ = false) 13 [0, 1, 2, 3, 4, 5, 6, 7, 8, 9, 10, 11, 12, 13] (by kernel_rfl) (by kernel_rfl) (fun _ _ d _ _ h => by cases d <;> exact h) ⟨d1, dP, dT, d2, f2⟩ (fun hHeld => ?_)
                            repeat (refine Can.can_pure (v := ?_) rfl rfl (Or.inl ⟨by rfl, ?_⟩) ?_; rotate_left; (focus ((intro w hSw); (try dsimp only at hSw); go_simp; (try with_reducible rfl))); (try simp only [Act.put, List.getElem_toArray, List.getElem_cons_succ, List.getElem_cons_zero, List.setIfInBounds_toArray, List.set_cons_zero, List.set_cons_succ]))
                            have f1 := hHeld.2.2.2.2
                            have c9 := hHeld.2.2.2.1
                            refine Can.can_tail rfl rfl (by rfl) (fun K hK => ?_)
                            go_simp
                            refine hK.out _ _ ?_
                            clear hK K
                            clear hHeld f1 c9 d1 d2 f2 dP dT n1 n2 n3
                            go_wp2_with fail
                            go_meet
                            exact ⟨rfl, HN⟩
                          case rest =>
                            obtain ⟨rfl, HN2⟩ := hcut
                            clear HN d1 d2 f2 dP dT n1 n2 n3
                            go_wp2_with fail
                            go_roundw
                            case rel => exact ⟨t4 + 1, m + 1, by omega, by omega, by go_num, by go_num, HT5, HN2⟩
                            case measure => simp [intOf]; omega
                        · have HKE := Lib.hid hke
                          have n1 : ((k : Int) == 1) = false := by rw [hke]; rfl
                          have n2 : ((k : Int) == 2) = false := by rw [hke]; rfl
                          have n3 : ((k : Int) == 3) = true := by rw [hke]; rfl
                          clear hke
                          have hX : A3 = placeN false L (pX S i k qq) := by
                            have h5 : pX S i k qq = I3 := by have h6 := HPS.out; have h7 := HKE.out; have h8 := HLA.out; have h9 := HII.out; omega
                            rw [h5]; exact HAA.out.2.2.2
                          have hY : A0 = placeN false L (pY S i k qq) := by
                            have h5 : pY S i k qq = I0 := by have h6 := HPS.out; have h7 := HKE.out; have h8 := HLA.out; have h9 := HII.out; omega
                            rw [h5]; exact HAA.out.1
                          have hql : qq < 2 * longN false L i := by rw [← HL.out, HQQ.out]; omega
                          have ht4e : t4 = offN false L i + k * (2 * longN false L i) + qq := by
                            rw [← HL.out, ← HT1.out, HQQ.out]
                            have h7 := HT2.out; have h8 := HT3.out; have h9 := HT4.out; omega
                          obtain ⟨bt, hbt⟩ : ∃ b, T[t4]? = some b := ⟨_, List.getElem?_eq_getElem (by rw [HTL.out]; exact htN4)⟩
                          have dT := HR4b.out.cell (HCT.out t4 bt hbt) (fun i hi => by have h9 := (HBK.out i hi).2; omega)
                          have dP := HR4b.out.cell HCP.out (fun i hi => by have h9 := (HBK.out i hi).2; omega)
                          have hYb : A0 < bs.length := by rw [HBL.out]; exact p0
                          have HN := Lib.hid (HR4b.out.put hlt hkl hql ht4e hbt (by rw [← HSS.out]; exact hX) (by rw [← HSS.out]; exact hY) p3 hYb (fun i hi => by have h9 := (HBK.out i hi).1; have h8 := HG1.out; omega))
                          obtain ⟨d1, b0, d2, f2⟩ := HR4b.out.at_ p3 hYb
                          clear HR4b hbt ht4e hql hYb hX hY
                          generalize bs.getD A0 0 = Q at *
                          go_wp2_with fail
                          go_upto_region 37 with fail
                          go_cut [25] (fun xv wx => xv = .int .i64 (A3 : Int) ∧ Hid (LayR false L T g2 n bs w w5 wx w.heap.size (t4 + 1)))
                          case first => as_aux_lemma =>
                            refine Can.wp_region_can (fun w' => w'.cell? ⟨g2, A0, none⟩ = some (.slice (some ⟨Q, 0, none⟩) n n) ∧ w'.cell? ⟨q0 + 1, 0, none⟩ = some (.slice (some ⟨gb, ob, none⟩) N cb) ∧ w'.cell? ⟨gb, ob + t4, none⟩ = some (.bool bt) ∧ w'.cell? ⟨Q, A3, none⟩ = some (.bool b0) ∧ w'.frozen? ⟨Q, A3, none⟩ = false) 13 [0, 1, 2, 3, 4, 5, 6, 7, 8, 9, 10, 11, 12, 13] (by kernel_rfl) (by kernel_rfl) (fun _ _ d _ _ h => by cases d <;> exact h) ⟨d1, dP, dT, d2, f2⟩ (fun hHeld => ?_)
                            repeat (refine Can.can_pure (v := ?_) rfl rfl (Or.inl ⟨by rfl, ?_⟩) ?_; rotate_left; (focus ((intro w hSw); (try dsimp only at hSw); go_simp; (try with_reducible rfl))); (try simp only [Act.put, List.getElem_toArray, List.getElem_cons_succ, List.getElem_cons_zero, List.setIfInBounds_toArray, List.set_cons_zero, List.set_cons_succ]))
                            have f1 := hHeld.2.2.2.2
                            have c9 := hHeld.2.2.2.1
                            refine Can.can_tail rfl rfl (by rfl) (fun K hK => ?_)
                            go_simp
                            refine hK.out _ _ ?_
                            clear hK K
                            clear hHeld f1 c9 d1 d2 f2 dP dT n1 n2 n3
                            go_wp2_with fail
                            go_meet
                            exact ⟨rfl, HN⟩
                          case rest =>
                            obtain ⟨rfl, HN2⟩ := hcut
                            clear HN d1 d2 f2 dP dT n1 n2 n3
                            go_wp2_with fail
                            go_roundw
                            case rel => exact ⟨t4 + 1, m + 1, by omega, by omega, by go_num, by go_num, HT5, HN2⟩
                            case measure => simp [intOf]; omega
                    · obtain rfl : m = 2 := by omega
                      have HT5 : Hid (t4 = t2 + 2 * (j + 1)) := Lib.hid (by have h8 := HT3.out; have h9 := HT4.out; omega)
                      go_wp2_with fail
                      go_roundw
                      case rel => exact ⟨t4, j + 1, by omega, ht4, rfl, by go_num, HT5, HR4⟩
                      case measure => simp [intOf]; omega
                · obtain rfl : j = l := by omega
                  have HT5 : Hid (t3 = t1 + (k + 1) * (2 * j)) := Lib.hid (by have h8 := HT2.out; have h9 := HT3.out; rw [Nat.add_mul]; omega)
                  go_wp2_with fail
                  go_roundw
                  case rel => exact ⟨t3, k + 1, by omega, ht3, rfl, by go_num, HT5, HR3⟩
                  case measure => simp [intOf]; omega
            · obtain rfl : k = 4 := by omega
              have HT5 : Hid (t2 = offN false L (i + 1)) := Lib.hid (by have h8 := HT2.out; have h9 := HOS.out; omega)
              go_wp2_with fail
              go_roundw
              case rel => exact ⟨t2, i + 1, by omega, ht2, rfl, by go_num, HT5, HR2⟩
              case measure => simp [intOf]; omega
        · obtain rfl : i = L := by omega
          obtain ⟨G, z1, z2, z3, z4⟩ := HR1.out
          rw [HT1.out] at z2
          have hG := z2.done (by rw [HTL.out, HNW.out])
          have hrw := z1.rowsT HBL.out ⟨by omega, by omega⟩
          have HF := Lib.hid (And.intro hrw (And.intro hG z4))
          clear z1 z2 z3 z4 hG hrw HR1
          go_wp2
          go_ret
          exact ⟨_, G, rfl, HF.out.1, HF.out.2.1, HF.out.2.2⟩
end Go.Proofs.YtopfdmmimgnciaaGreatDoor
