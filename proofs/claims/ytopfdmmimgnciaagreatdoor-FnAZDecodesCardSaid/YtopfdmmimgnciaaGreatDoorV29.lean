/-
  WALKS: decoder.Decoder.extractBits.
-/
import Derived.Test.YtopfdmmimgnciaaGreatDoorV28
namespace Go.Proofs.YtopfdmmimgnciaaGreatDoor
open Go.RowKit

set_option maxRecDepth 100000 in
set_option maxHeartbeats 40000000 in
theorem extract_compact (L p gm dd rr : Nat) (f : Nat → Nat → Bool) (w : World) (hm : MatAt w p gm (wholeN true L) (wholeN true L) f) (hd : w.cell? ⟨dd, 0, none⟩ = some (.pointer (some ⟨rr, 0, none⟩)))
    (h1 : w.cell? ⟨rr, 1, none⟩ = some (.bool true)) (h3 : w.cell? ⟨rr, 3, none⟩ = some (.int .i64 (L : Nat))) (hL1 : 1 ≤ L) (hL : L ≤ 32) :
    Calls Tryz.prog 47 #[.pointer (some ⟨dd, 0, none⟩), .pointer (some ⟨p, 0, none⟩)] w fun e w' => ∃ v', e = .returned v' ∧ RdT w' 4 v' (bv (takU true L f L)) ∧ Below w.heap.size w w' := by
  have hsl := sideN_le true L hL
  have hwl := wholeN_le true L hL
  have hNle := offN_le true L L hL
  have HM := Lib.hid hm; clear hm
  have HCa := Lib.hid (isCompact_any true rr w h1)
  have HCb := Lib.hid (nbLayers_any L rr w h3)
  clear h1 h3
  have hmk := mkl_ints (sideN true L) w (by omega)
  obtain ⟨wz, hwz⟩ : ∃ x, x = w.alloc (.cells (nvl (List.replicate (sideN true L) 0)).toArray 3) := ⟨_, rfl⟩
  have hmkb := mk_bools (offN true L L) wz (by omega)
  obtain ⟨wy, hwy⟩ : ∃ x, x = wz.alloc (.cells (bv (List.replicate (offN true L L) false)).toArray 4) := ⟨_, rfl⟩
  have HX : Hid (Blk wy w.heap.size 3 (nvl (List.replicate (sideN true L) 0)).toArray) := Lib.hid (by rw [hwy, hwz]; exact (Blk.fresh w _ _).alloc _)
  have HY : Hid (Blk wy wz.heap.size 4 (bv (List.replicate (offN true L L) false)).toArray) := Lib.hid (by rw [hwy]; exact Blk.fresh wz _ _)
  have HB : Hid (Below w.heap.size w wy) := Lib.hid (by rw [hwy, hwz]; exact bal (bal (brf w) _) _)
  have hgr : w.heap.size < wz.heap.size := by rw [hwz]; simp
  have hgr0 : w.heap.size ≤ wz.heap.size := Nat.le_of_lt hgr
  obtain ⟨hp9a, hg9a⟩ := HM.out.blt
  have hp9 : p < wz.heap.size := Nat.lt_trans hp9a hgr
  have hg9 : gm < wz.heap.size := Nat.lt_trans hg9a hgr
  rw [← hwz] at hmk
  rw [← hwy] at hmkb
  clear hwz hwy hp9a hg9a
  have HPL := Lib.hid (eq_places true L)
  have HT : Hid (∀ i k j, i < L → k < 4 → j < 2 * longN true L i → (takU true L f L)[offN true L i + k * (2 * longN true L i) + j]? = some (bitZ true L f i k j)) := Lib.hid (fun i k j => takU_at true L f i k j L)
  have HTL : Hid ((takU true L f L).length = offN true L L) := Lib.hid (takU_len true L f L)
  have HLS := Lib.hid (long_side true L)
  have hWW : ∃ W, W = wholeN true L := ⟨_, rfl⟩
  have HCc := Lib.hid (totalBits_any true L wz hL)
  obtain ⟨N, hN⟩ : ∃ x, x = offN true L L := ⟨_, rfl⟩
  rw [← hN] at HTL HY HCc hmkb hNle
  have HTO := Lib.hid hN.symm
  clear hN
  obtain ⟨W, hW⟩ := hWW
  rw [← hW] at HM hwl
  have HWW := Lib.hid hW.symm
  clear hW
  have hW4 : W ≤ 4096 := by omega
  generalize takU true L f L = T at *
  generalize wz.heap.size = r at *
  have hbase : (L : Int) * 4 + 11 = (sideN true L : Int) := by unfold sideN; simp; omega
  have hpN : ∀ q, placeN true L q = q := fun q => by unfold placeN; simp
  have HPN := Lib.hid hpN; clear hpN
  obtain ⟨S, hS⟩ : ∃ x, x = sideN true L := ⟨_, rfl⟩
  rw [← hS] at hbase hmk HX hsl
  have HSS := Lib.hid hS.symm
  clear hS
  generalize hgg : w.heap.size = g at *
  go_enter Tryz.func47, Tryz.ntmps47
  go_wp2_with fail
  refine HCa.out.mono ?_
  rintro e w ⟨rfl, rfl⟩
  go_wp2_with fail
  refine HCb.out.mono ?_
  rintro e w ⟨rfl, rfl⟩
  go_wp2_with fail
  refine HCc.out.mono ?_
  rintro e wz ⟨rfl, rfl⟩
  go_wp2_with fail
  clear hmk hmkb hd hbase
  go_loopw [10] (fun iv wr => ∃ (i : Nat) (cur : List Nat), i ≤ S ∧ iv = .int .i64 i ∧ Hid (Blk wr g 3 (nvl cur).toArray ∧ cur.length = S ∧ ∀ q, q < i → cur.getD q 0 = q) ∧ Hid (Below g w wr) ∧ Hid (Blk wr r 4 (bv (List.replicate N false)).toArray)) (fun iv _ => S - (intOf iv).toNat)
  case atStart => exact ⟨0, List.replicate S 0, Nat.zero_le _, rfl, Lib.hid ⟨HX.out, List.length_replicate, fun q hq => absurd hq (Nat.not_lt_zero _)⟩, HB, HY⟩
  case round =>
    clear HX HB HY
    obtain ⟨i, cur, hi, rfl, HC, HB, HY⟩ := hrel
    by_cases hlt : i < S
    · have hci : i < cur.length := by rw [HC.out.2.1]; exact hlt
      have c1 : wr.cell? ⟨g, i, none⟩ = some (.int .i64 ((cur.getD i 0 : Nat) : Int)) := by rw [HC.out.1.cell]; exact nvl_getD cur i hci
      have f1 := HC.out.1.frozen i
      have HC2 : Hid (Blk (wr.setCell ⟨g, i, none⟩ (.int .i64 i)) g 3 (nvl (cur.set i i)).toArray ∧ (cur.set i i).length = S ∧ ∀ q, q < i + 1 → (cur.set i i).getD q 0 = q) := Lib.hid ⟨by rw [← nvl_set]; exact HC.out.1.put _ _, by rw [List.length_set]; exact HC.out.2.1, fun q hq => by
        by_cases hqi : q = i
        · subst hqi; rw [List.getD, List.getElem?_set_self hci]; rfl
        · rw [List.getD, List.getElem?_set_ne (by omega)]; exact HC.out.2.2 q (by omega)⟩
      have HB2 := Lib.hid (HB.out.setCell (p := ⟨g, i, none⟩) (Nat.le_refl _) (.int .i64 (i : Int)))
      have HY2 := Lib.hid (HY.out.far (p := ⟨g, i, none⟩) (Nat.ne_of_gt hgr) (.int .i64 (i : Int)))
      clear HC HB HY hci
      generalize cur.getD i 0 = z at *
      go_wp2
      go_roundw
      case rel => exact ⟨i + 1, _, by omega, by go_num, HC2, HB2, HY2⟩
      case measure => simp [intOf]; omega
    · obtain rfl : S = i := by omega
      have hcp := HPL.out cur (HC.out.2.1.trans HSS.out.symm) (fun q hq => by rw [HPN.out]; exact HC.out.2.2 q (by rw [HSS.out] at hq; exact hq))
      have HCP : Hid (Blk wr g 3 (nvl (placesL true L)).toArray) := Lib.hid (by rw [← hcp]; exact HC.out.1)
      clear hcp HC
      have HC := HCP
      clear HCP HPN
      go_wp2_with fail
      obtain ⟨wa, rfl⟩ : ∃ wo : World, wo = wr := ⟨_, rfl⟩
      have HB0 := HB
      have hMA := HM.out.up (by rw [hgg]; exact HB.out)
      have HMA := Lib.hid hMA; clear hMA
      have hp : ∀ wq, Below r wa wq → ∀ q, q < S → wq.cell? ⟨g, q, none⟩ = some (.int .i64 ((placeN true L q : Nat) : Int)) := fun wq hb q hq => by
        rw [(HC.out.below hb hgr).cell, nvl_getD _ _ (by rw [placesL_len, HSS.out]; exact hq), placesL_at true L q (by rw [HSS.out]; exact hq)]
      have HP := Lib.hid hp; clear hp
      have HY0 := HY
      clear HC HM
      obtain ⟨pl, hpl⟩ : ∃ x : Nat → Nat, x = placeN true L := ⟨_, rfl⟩
      rw [← hpl] at HP
      have hq : ∀ q, q < S → pl q < W := fun q hq => by rw [← HWW.out, hpl]; exact placeN_lt true L q (by rw [HSS.out]; exact hq)
      have HQ := Lib.hid hq; clear hq
      have HPLN := Lib.hid hpl; clear hpl
      go_loopw [16, 17] (fun iv ov wr => ∃ (i n : Nat), i ≤ L ∧ iv = .int .i64 i ∧ ov = .int .i64 n ∧ n ≤ 1120 * i ∧ Hid (n = offN true L i) ∧ Hid (∃ cur, Blk wr r 4 (bv cur).toArray ∧ Ag T cur n 0 0) ∧ Hid (Below r wa wr)) (fun iv _ _ => L - (intOf iv).toNat)
      case atStart => exact ⟨0, 0, Nat.zero_le _, rfl, rfl, Nat.zero_le _, Lib.hid rfl, Lib.hid ⟨_, HY0.out, by rw [← HTL.out]; exact Ag.zero T 0⟩, Lib.hid (Below.refl _ _)⟩
      case round =>
        clear HY HY0 HB
        obtain ⟨i, n, hi, rfl, rfl, hn, HN, HK, HB⟩ := hrel
        by_cases hlt : i < L
        · have hll := HLS.out i hlt
          rw [HSS.out] at hll
          have hlle := longN_le true L i hL
          have hlc : longN true L i = 4 * (L - i) + 9 := rfl
          have hTT : ∀ k q, k < 4 → q < 2 * longN true L i → T[n + k * (2 * longN true L i) + q]? = some (bitZ true L f i k q) := fun k q h1 h2 => by rw [HN.out]; exact HT.out i k q hlt h1 h2
          have HTT := Lib.hid hTT; clear hTT
          have hnN : n + 4 * (2 * longN true L i) ≤ N := by
            have := offN_mono true L (i + 1) L hlt
            rw [offN_succ, ← HN.out, HTO.out] at this; omega
          have HN2 : Hid (n + 8 * longN true L i = offN true L (i + 1)) := Lib.hid (by rw [offN_succ, HN.out])
          obtain ⟨l, hl⟩ : ∃ x, x = longN true L i := ⟨_, rfl⟩
          rw [← hl] at hll hlle hlc hnN HTT HN2
          have e1 : ((L : Int) - (i : Int)) * 4 + 9 = (l : Int) := by rw [hlc]; omega
          obtain ⟨lo, hlo⟩ : ∃ x, x = i * 2 := ⟨_, rfl⟩
          obtain ⟨hh, hhh⟩ : ∃ x, x = S - 1 - lo := ⟨_, rfl⟩
          have HH := Lib.hid (And.intro hlo hhh)
          have e2 : (i : Int) * 2 = (lo : Int) := by omega
          have e3 : (S : Int) - 1 - (lo : Int) = (hh : Int) := by omega
          have b1 : lo + l + 2 ≤ S := by omega
          have b2 : l ≤ hh := by omega
          have b3 : hh < S := by omega
          clear hl hlc hll HN
          have b4 : lo ≤ 64 := by omega
          clear hlo hhh
          go_wp2_with fail
          clear e1 e2 e3
          obtain ⟨wv, rfl⟩ : ∃ wo : World, wo = wr := ⟨_, rfl⟩
          go_loopw [21] (fun jv wr => ∃ (j : Nat), j ≤ l ∧ jv = .int .i64 j ∧ Hid (∃ cur, Blk wr r 4 (bv cur).toArray ∧ Ag T cur n (2 * l) (2 * j)) ∧ Hid (Below r wa wr)) (fun jv _ => l - (intOf jv).toNat)
          case atStart => exact ⟨0, Nat.zero_le _, rfl, Lib.hid (by obtain ⟨cur, h1, h2⟩ := HK.out; exact ⟨cur, h1, h2.none⟩), HB⟩
          case round =>
            rename World => wk
            clear HK HB
            obtain ⟨j, hj, rfl, HK, HB⟩ := hrel
            by_cases hjl : j < l
            · obtain ⟨cj, hcj⟩ : ∃ x, x = j * 2 := ⟨_, rfl⟩
              have HCJ := Lib.hid hcj
              have e4 : (j : Int) * 2 = (cj : Int) := by omega
              have b5 : cj + 2 ≤ 2 * l := by omega
              clear hcj
              go_wp2_with fail
              clear e4
              go_loopw [23] (fun kv wr => ∃ (k : Nat), k ≤ 2 ∧ kv = .int .i64 k ∧ Hid (∃ cur, Blk wr r 4 (bv cur).toArray ∧ Ag T cur n (2 * l) (2 * j + k)) ∧ Hid (Below r wa wr)) (fun kv _ => 2 - (intOf kv).toNat)
              case atStart => exact ⟨0, Nat.zero_le _, rfl, HK, HB⟩
              case round =>
                rename World => w1
                clear HK HB
                obtain ⟨k, hk, rfl, HK, w1B⟩ := hrel
                by_cases hkl : k < 2
                · obtain ⟨C, hCK, hCA⟩ := HK.out
                  have w1K := Lib.hid hCK
                  have CL : Hid (C.length = N) := Lib.hid (by rw [hCA.1]; exact HTL.out)
                  have HCA := Lib.hid hCA
                  clear hCK hCA HK
                  obtain ⟨A0, P0, HP0, y0, n0, m0, n1, m1⟩ := nums2 n cj k N (by omega) (by omega)
                  obtain ⟨B1, A1, P1, HP1, y1, n2, n3, m3, n4, m4, n5, m5⟩ := nums3 n (2 * l) cj k N (2 * (l : Int)) (by simp) (by omega) (by omega)
                  obtain ⟨B2, A2, P2, HP2, y2, n6, n7, m7, n8, m8, n9, m9⟩ := nums3 n (4 * l) cj k N (4 * (l : Int)) (by simp) (by omega) (by omega)
                  obtain ⟨B3, A3, P3, HP3, y3, n10, n11, m11, n12, m12, n13, m13⟩ := nums3 n (6 * l) cj k N (6 * (l : Int)) (by simp) (by omega) (by omega)
                  obtain ⟨I0, HI0, z0, n14, m14⟩ := numAdd lo k S (by omega) (by omega)
                  obtain ⟨I1, HI1, z1, n15, m15⟩ := numAdd lo j S (by omega) (by omega)
                  obtain ⟨I2, HI2, z2, n16, m16⟩ := numSub hh k S (by omega) (by omega) (by omega)
                  obtain ⟨I3, HI3, z3, n17, m17⟩ := numSub hh j S (by omega) (by omega) (by omega)
                  obtain ⟨b0, hb0⟩ : ∃ b, b = f (pl I0) (pl I1) := ⟨_, rfl⟩
                  obtain ⟨b1', hb1⟩ : ∃ b, b = f (pl I1) (pl I2) := ⟨_, rfl⟩
                  obtain ⟨b2', hb2⟩ : ∃ b, b = f (pl I2) (pl I3) := ⟨_, rfl⟩
                  obtain ⟨b3', hb3⟩ : ∃ b, b = f (pl I3) (pl I0) := ⟨_, rfl⟩
                  have G0 : Hid (∀ a, MatAt a p gm W W f → Calls Tryz.prog 66 #[.pointer (some ⟨p, 0, none⟩), .int .i64 (pl I0 : Nat), .int .i64 (pl I1 : Nat)] a fun e w' => e = .returned (.bool b0) ∧ w' = a) := Lib.hid (fun a ha => by rw [hb0]; exact matGet_any p gm W W _ _ f a ha (HQ.out _ z0) (HQ.out _ z1) hW4 hW4)
                  have G1 : Hid (∀ a, MatAt a p gm W W f → Calls Tryz.prog 66 #[.pointer (some ⟨p, 0, none⟩), .int .i64 (pl I1 : Nat), .int .i64 (pl I2 : Nat)] a fun e w' => e = .returned (.bool b1') ∧ w' = a) := Lib.hid (fun a ha => by rw [hb1]; exact matGet_any p gm W W _ _ f a ha (HQ.out _ z1) (HQ.out _ z2) hW4 hW4)
                  have G2 : Hid (∀ a, MatAt a p gm W W f → Calls Tryz.prog 66 #[.pointer (some ⟨p, 0, none⟩), .int .i64 (pl I2 : Nat), .int .i64 (pl I3 : Nat)] a fun e w' => e = .returned (.bool b2') ∧ w' = a) := Lib.hid (fun a ha => by rw [hb2]; exact matGet_any p gm W W _ _ f a ha (HQ.out _ z2) (HQ.out _ z3) hW4 hW4)
                  have G3 : Hid (∀ a, MatAt a p gm W W f → Calls Tryz.prog 66 #[.pointer (some ⟨p, 0, none⟩), .int .i64 (pl I3 : Nat), .int .i64 (pl I0 : Nat)] a fun e w' => e = .returned (.bool b3') ∧ w' = a) := Lib.hid (fun a ha => by rw [hb3]; exact matGet_any p gm W W _ _ f a ha (HQ.out _ z3) (HQ.out _ z0) hW4 hW4)
                  have HNA : Hid (Ag T ((((C.set P0 b0).set P1 b1').set P2 b2').set P3 b3') n (2 * l) (2 * j + (k + 1))) := Lib.hid (round_ag HTT.out HSS.out HH.out.1 HH.out.2 HI0.out HI1.out HI2.out HI3.out (by rw [HP0.out.2, HP0.out.1, HCJ.out]) (by rw [HP1.out.2.2, HP1.out.2.1, HP1.out.1, HCJ.out]) (by rw [HP2.out.2.2, HP2.out.2.1, HP2.out.1, HCJ.out]) (by rw [HP3.out.2.2, HP3.out.2.1, HP3.out.1, HCJ.out]) hjl hkl HCA.out (by rw [hb0, HPLN.out]) (by rw [hb1, HPLN.out]) (by rw [hb2, HPLN.out]) (by rw [hb3, HPLN.out]))
                  clear hb0 hb1 hb2 hb3 HCA HI0 HI1 HI2 HI3 HP0 HP1 HP2 HP3
                  go_wp2_with fail
                  have cx_w1 := HP.out _ w1B.out I0 (by assumption)
                  have cy_w1 := HP.out _ w1B.out I1 (by assumption)
                  have hcl_w1 : P0 < C.length := by rw [CL.out]; omega
                  have cO_w1 : w1.cell? ⟨r, P0, none⟩ = some (.bool (C.getD P0 false)) := by
                    rw [w1K.out.cell, List.getElem?_toArray]
                    unfold bv
                    rw [List.getElem?_map, List.getD, List.getElem?_eq_getElem hcl_w1]; rfl
                  have fO_w1 : w1.frozen? ⟨r, P0, none⟩ = false := w1K.out.frozen _
                  have HMi_w1 := Lib.hid (HMA.out.below w1B.out hp9 hg9)
                  have HNK : Hid (Blk (w1.setCell ⟨r, P0, none⟩ (.bool b0)).drew r 4 (bv (C.set P0 b0)).toArray) := Lib.hid (by rw [← bv_set]; exact (w1K.out.put _ _).drew)
                  have HNB : Hid (Below r wa (w1.setCell ⟨r, P0, none⟩ (.bool b0)).drew) := Lib.hid (w1B.out.setCell (p := ⟨r, P0, none⟩) (Nat.le_refl _) (.bool b0)).drew
                  have HNL : Hid ((C.set P0 b0).length = N) := Lib.hid (by rw [List.length_set]; exact CL.out)
                  generalize C.getD P0 false = old_w1 at *
                  clear hcl_w1
                  refine Can.wp_region_can (fun w' => w'.cell? ⟨g, I0, none⟩ = some (.int .i64 ((pl I0 : Nat) : Int)) ∧ w'.cell? ⟨g, I1, none⟩ = some (.int .i64 ((pl I1 : Nat) : Int)) ∧ w'.cell? ⟨r, P0, none⟩ = some (.bool old_w1) ∧ w'.frozen? ⟨r, P0, none⟩ = false) 21 [0, 1, 2, 3, 4, 5, 6, 7, 8, 9, 10, 11, 12, 13, 14, 15, 16, 17, 18, 19, 20, 21] (by kernel_rfl) (by kernel_rfl) (fun _ _ d _ _ h => by cases d <;> exact h) ⟨cx_w1, cy_w1, cO_w1, fO_w1⟩ (fun hHeld => ?_)
                  repeat (refine Can.can_pure (v := ?_) rfl rfl (Or.inl ⟨by rfl, ?_⟩) ?_; rotate_left; (focus ((intro w hSw); (try dsimp only at hSw); go_simp; (try with_reducible rfl))); (try simp only [Act.put, List.getElem_toArray, List.getElem_cons_succ, List.getElem_cons_zero, List.setIfInBounds_toArray, List.set_cons_zero, List.set_cons_succ]))
                  refine Can.can_eff rfl rfl (by rfl) (fun K hK => ?_)
                  go_simp
                  refine (G0.out _ (HMi_w1.out.up (bdr (brf _)))).mono ?_
                  rintro e w5 ⟨rfl, rfl⟩
                  refine hK.out _ _ hHeld (fun hHeld1 => ?_)
                  clear hK K
                  (try simp only [Act.put, List.getElem_toArray, List.getElem_cons_succ, List.getElem_cons_zero, List.setIfInBounds_toArray, List.set_cons_zero, List.set_cons_succ])
                  repeat (refine Can.can_pure (v := ?_) rfl rfl (Or.inl ⟨by rfl, ?_⟩) ?_; rotate_left; (focus ((intro w hSw); (try dsimp only at hSw); go_simp; (try with_reducible rfl))); (try simp only [Act.put, List.getElem_toArray, List.getElem_cons_succ, List.getElem_cons_zero, List.setIfInBounds_toArray, List.set_cons_zero, List.set_cons_succ]))
                  have f1 := hHeld1.2.2.2
                  have c3 := hHeld1.2.2.1
                  refine Can.can_tail rfl rfl (by rfl) (fun K hK => ?_)
                  go_simp
                  refine hK.out _ _ ?_
                  clear hK K
                  clear hHeld hHeld1 f1 c3 cx_w1 cy_w1 cO_w1 fO_w1 HMi_w1
                  go_wp2_with fail
                  generalize World.drew (World.setCell w1 _ _) = w2 at *
                  generalize C.set P0 b0 = C2 at *
                  rename Hid (Blk w2 _ _ _) => w2K
                  rename Hid (Below r wa w2) => w2B
                  rename Hid (C2.length = N) => C2L
                  clear w1K w1B CL
                  have cx_w2 := HP.out _ w2B.out I1 (by assumption)
                  have cy_w2 := HP.out _ w2B.out I2 (by assumption)
                  have hcl_w2 : P1 < C2.length := by rw [C2L.out]; omega
                  have cO_w2 : w2.cell? ⟨r, P1, none⟩ = some (.bool (C2.getD P1 false)) := by
                    rw [w2K.out.cell, List.getElem?_toArray]
                    unfold bv
                    rw [List.getElem?_map, List.getD, List.getElem?_eq_getElem hcl_w2]; rfl
                  have fO_w2 : w2.frozen? ⟨r, P1, none⟩ = false := w2K.out.frozen _
                  have HMi_w2 := Lib.hid (HMA.out.below w2B.out hp9 hg9)
                  have HNK : Hid (Blk (w2.setCell ⟨r, P1, none⟩ (.bool b1')).drew r 4 (bv (C2.set P1 b1')).toArray) := Lib.hid (by rw [← bv_set]; exact (w2K.out.put _ _).drew)
                  have HNB : Hid (Below r wa (w2.setCell ⟨r, P1, none⟩ (.bool b1')).drew) := Lib.hid (w2B.out.setCell (p := ⟨r, P1, none⟩) (Nat.le_refl _) (.bool b1')).drew
                  have HNL : Hid ((C2.set P1 b1').length = N) := Lib.hid (by rw [List.length_set]; exact C2L.out)
                  generalize C2.getD P1 false = old_w2 at *
                  clear hcl_w2
                  refine Can.wp_region_can (fun w' => w'.cell? ⟨g, I1, none⟩ = some (.int .i64 ((pl I1 : Nat) : Int)) ∧ w'.cell? ⟨g, I2, none⟩ = some (.int .i64 ((pl I2 : Nat) : Int)) ∧ w'.cell? ⟨r, P1, none⟩ = some (.bool old_w2) ∧ w'.frozen? ⟨r, P1, none⟩ = false) 24 [0, 1, 2, 3, 4, 5, 6, 7, 8, 9, 10, 11, 12, 13, 14, 15, 16, 17, 18, 19, 20, 21, 22, 23, 24] (by kernel_rfl) (by kernel_rfl) (fun _ _ d _ _ h => by cases d <;> exact h) ⟨cx_w2, cy_w2, cO_w2, fO_w2⟩ (fun hHeld => ?_)
                  repeat (refine Can.can_pure (v := ?_) rfl rfl (Or.inl ⟨by rfl, ?_⟩) ?_; rotate_left; (focus ((intro w hSw); (try dsimp only at hSw); go_simp; (try with_reducible rfl))); (try simp only [Act.put, List.getElem_toArray, List.getElem_cons_succ, List.getElem_cons_zero, List.setIfInBounds_toArray, List.set_cons_zero, List.set_cons_succ]))
                  refine Can.can_eff rfl rfl (by rfl) (fun K hK => ?_)
                  go_simp
                  refine (G1.out _ (HMi_w2.out.up (bdr (brf _)))).mono ?_
                  rintro e w5 ⟨rfl, rfl⟩
                  refine hK.out _ _ hHeld (fun hHeld1 => ?_)
                  clear hK K
                  (try simp only [Act.put, List.getElem_toArray, List.getElem_cons_succ, List.getElem_cons_zero, List.setIfInBounds_toArray, List.set_cons_zero, List.set_cons_succ])
                  repeat (refine Can.can_pure (v := ?_) rfl rfl (Or.inl ⟨by rfl, ?_⟩) ?_; rotate_left; (focus ((intro w hSw); (try dsimp only at hSw); go_simp; (try with_reducible rfl))); (try simp only [Act.put, List.getElem_toArray, List.getElem_cons_succ, List.getElem_cons_zero, List.setIfInBounds_toArray, List.set_cons_zero, List.set_cons_succ]))
                  have f1 := hHeld1.2.2.2
                  have c3 := hHeld1.2.2.1
                  refine Can.can_tail rfl rfl (by rfl) (fun K hK => ?_)
                  go_simp
                  refine hK.out _ _ ?_
                  clear hK K
                  clear hHeld hHeld1 f1 c3 cx_w2 cy_w2 cO_w2 fO_w2 HMi_w2
                  go_wp2_with fail
                  generalize World.drew (World.setCell w2 _ _) = w3 at *
                  generalize C2.set P1 b1' = C3 at *
                  rename Hid (Blk w3 _ _ _) => w3K
                  rename Hid (Below r wa w3) => w3B
                  rename Hid (C3.length = N) => C3L
                  clear w2K w2B C2L
                  have cx_w3 := HP.out _ w3B.out I2 (by assumption)
                  have cy_w3 := HP.out _ w3B.out I3 (by assumption)
                  have hcl_w3 : P2 < C3.length := by rw [C3L.out]; omega
                  have cO_w3 : w3.cell? ⟨r, P2, none⟩ = some (.bool (C3.getD P2 false)) := by
                    rw [w3K.out.cell, List.getElem?_toArray]
                    unfold bv
                    rw [List.getElem?_map, List.getD, List.getElem?_eq_getElem hcl_w3]; rfl
                  have fO_w3 : w3.frozen? ⟨r, P2, none⟩ = false := w3K.out.frozen _
                  have HMi_w3 := Lib.hid (HMA.out.below w3B.out hp9 hg9)
                  have HNK : Hid (Blk (w3.setCell ⟨r, P2, none⟩ (.bool b2')).drew r 4 (bv (C3.set P2 b2')).toArray) := Lib.hid (by rw [← bv_set]; exact (w3K.out.put _ _).drew)
                  have HNB : Hid (Below r wa (w3.setCell ⟨r, P2, none⟩ (.bool b2')).drew) := Lib.hid (w3B.out.setCell (p := ⟨r, P2, none⟩) (Nat.le_refl _) (.bool b2')).drew
                  have HNL : Hid ((C3.set P2 b2').length = N) := Lib.hid (by rw [List.length_set]; exact C3L.out)
                  generalize C3.getD P2 false = old_w3 at *
                  clear hcl_w3
                  refine Can.wp_region_can (fun w' => w'.cell? ⟨g, I2, none⟩ = some (.int .i64 ((pl I2 : Nat) : Int)) ∧ w'.cell? ⟨g, I3, none⟩ = some (.int .i64 ((pl I3 : Nat) : Int)) ∧ w'.cell? ⟨r, P2, none⟩ = some (.bool old_w3) ∧ w'.frozen? ⟨r, P2, none⟩ = false) 24 [0, 1, 2, 3, 4, 5, 6, 7, 8, 9, 10, 11, 12, 13, 14, 15, 16, 17, 18, 19, 20, 21, 22, 23, 24] (by kernel_rfl) (by kernel_rfl) (fun _ _ d _ _ h => by cases d <;> exact h) ⟨cx_w3, cy_w3, cO_w3, fO_w3⟩ (fun hHeld => ?_)
                  repeat (refine Can.can_pure (v := ?_) rfl rfl (Or.inl ⟨by rfl, ?_⟩) ?_; rotate_left; (focus ((intro w hSw); (try dsimp only at hSw); go_simp; (try with_reducible rfl))); (try simp only [Act.put, List.getElem_toArray, List.getElem_cons_succ, List.getElem_cons_zero, List.setIfInBounds_toArray, List.set_cons_zero, List.set_cons_succ]))
                  refine Can.can_eff rfl rfl (by rfl) (fun K hK => ?_)
                  go_simp
                  refine (G2.out _ (HMi_w3.out.up (bdr (brf _)))).mono ?_
                  rintro e w5 ⟨rfl, rfl⟩
                  refine hK.out _ _ hHeld (fun hHeld1 => ?_)
                  clear hK K
                  (try simp only [Act.put, List.getElem_toArray, List.getElem_cons_succ, List.getElem_cons_zero, List.setIfInBounds_toArray, List.set_cons_zero, List.set_cons_succ])
                  repeat (refine Can.can_pure (v := ?_) rfl rfl (Or.inl ⟨by rfl, ?_⟩) ?_; rotate_left; (focus ((intro w hSw); (try dsimp only at hSw); go_simp; (try with_reducible rfl))); (try simp only [Act.put, List.getElem_toArray, List.getElem_cons_succ, List.getElem_cons_zero, List.setIfInBounds_toArray, List.set_cons_zero, List.set_cons_succ]))
                  have f1 := hHeld1.2.2.2
                  have c3 := hHeld1.2.2.1
                  refine Can.can_tail rfl rfl (by rfl) (fun K hK => ?_)
                  go_simp
                  refine hK.out _ _ ?_
                  clear hK K
                  clear hHeld hHeld1 f1 c3 cx_w3 cy_w3 cO_w3 fO_w3 HMi_w3
                  go_wp2_with fail
                  generalize World.drew (World.setCell w3 _ _) = w4 at *
                  generalize C3.set P2 b2' = C4 at *
                  rename Hid (Blk w4 _ _ _) => w4K
                  rename Hid (Below r wa w4) => w4B
                  rename Hid (C4.length = N) => C4L
                  clear w3K w3B C3L
                  have cx_w4 := HP.out _ w4B.out I3 (by assumption)
                  have cy_w4 := HP.out _ w4B.out I0 (by assumption)
                  have hcl_w4 : P3 < C4.length := by rw [C4L.out]; omega
                  have cO_w4 : w4.cell? ⟨r, P3, none⟩ = some (.bool (C4.getD P3 false)) := by
                    rw [w4K.out.cell, List.getElem?_toArray]
                    unfold bv
                    rw [List.getElem?_map, List.getD, List.getElem?_eq_getElem hcl_w4]; rfl
                  have fO_w4 : w4.frozen? ⟨r, P3, none⟩ = false := w4K.out.frozen _
                  have HMi_w4 := Lib.hid (HMA.out.below w4B.out hp9 hg9)
                  have HNK : Hid (Blk (w4.setCell ⟨r, P3, none⟩ (.bool b3')).drew r 4 (bv (C4.set P3 b3')).toArray) := Lib.hid (by rw [← bv_set]; exact (w4K.out.put _ _).drew)
                  have HNB : Hid (Below r wa (w4.setCell ⟨r, P3, none⟩ (.bool b3')).drew) := Lib.hid (w4B.out.setCell (p := ⟨r, P3, none⟩) (Nat.le_refl _) (.bool b3')).drew
                  have HNL : Hid ((C4.set P3 b3').length = N) := Lib.hid (by rw [List.length_set]; exact C4L.out)
                  generalize C4.getD P3 false = old_w4 at *
                  clear hcl_w4
                  refine Can.wp_region_can (fun w' => w'.cell? ⟨g, I3, none⟩ = some (.int .i64 ((pl I3 : Nat) : Int)) ∧ w'.cell? ⟨g, I0, none⟩ = some (.int .i64 ((pl I0 : Nat) : Int)) ∧ w'.cell? ⟨r, P3, none⟩ = some (.bool old_w4) ∧ w'.frozen? ⟨r, P3, none⟩ = false) 24 [0, 1, 2, 3, 4, 5, 6, 7, 8, 9, 10, 11, 12, 13, 14, 15, 16, 17, 18, 19, 20, 21, 22, 23, 24] (by kernel_rfl) (by kernel_rfl) (fun _ _ d _ _ h => by cases d <;> exact h) ⟨cx_w4, cy_w4, cO_w4, fO_w4⟩ (fun hHeld => ?_)
                  repeat (refine Can.can_pure (v := ?_) rfl rfl (Or.inl ⟨by rfl, ?_⟩) ?_; rotate_left; (focus ((intro w hSw); (try dsimp only at hSw); go_simp; (try with_reducible rfl))); (try simp only [Act.put, List.getElem_toArray, List.getElem_cons_succ, List.getElem_cons_zero, List.setIfInBounds_toArray, List.set_cons_zero, List.set_cons_succ]))
                  refine Can.can_eff rfl rfl (by rfl) (fun K hK => ?_)
                  go_simp
                  refine (G3.out _ (HMi_w4.out.up (bdr (brf _)))).mono ?_
                  rintro e w5 ⟨rfl, rfl⟩
                  refine hK.out _ _ hHeld (fun hHeld1 => ?_)
                  clear hK K
                  (try simp only [Act.put, List.getElem_toArray, List.getElem_cons_succ, List.getElem_cons_zero, List.setIfInBounds_toArray, List.set_cons_zero, List.set_cons_succ])
                  repeat (refine Can.can_pure (v := ?_) rfl rfl (Or.inl ⟨by rfl, ?_⟩) ?_; rotate_left; (focus ((intro w hSw); (try dsimp only at hSw); go_simp; (try with_reducible rfl))); (try simp only [Act.put, List.getElem_toArray, List.getElem_cons_succ, List.getElem_cons_zero, List.setIfInBounds_toArray, List.set_cons_zero, List.set_cons_succ]))
                  have f1 := hHeld1.2.2.2
                  have c3 := hHeld1.2.2.1
                  refine Can.can_tail rfl rfl (by rfl) (fun K hK => ?_)
                  go_simp
                  refine hK.out _ _ ?_
                  clear hK K
                  clear hHeld hHeld1 f1 c3 cx_w4 cy_w4 cO_w4 fO_w4 HMi_w4
                  clear w4K w4B C4L n0 n1 n2 n3 n4 n5 n6 n7 n8 n9 n10 n11 n12 n13 n14 n15 n16 n17 m0 m1 m3 m4 m5 m7 m8 m9 m11 m12 m13 m14 m15 m16 m17
                  go_wp2
                  go_roundw
                  case rel => exact ⟨k + 1, by omega, by go_num, Lib.hid ⟨_, HNK.out, HNA.out⟩, HNB⟩
                  case measure => simp [intOf]; omega
                · obtain rfl : k = 2 := by omega
                  go_wp2
                  go_roundw
                  case rel => exact ⟨j + 1, by omega, by go_num, HK, w1B⟩
                  case measure => simp [intOf]; omega
            · obtain rfl : j = l := by omega
              have HK2 : Hid (∃ cur, Blk wk r 4 (bv cur).toArray ∧ Ag T cur (n + 8 * j) 0 0) := Lib.hid (by obtain ⟨cur, h1, h2⟩ := HK.out; exact ⟨cur, h1, h2.layer (by omega)⟩)
              clear HK
              go_wp2
              go_roundw
              case rel => exact ⟨i + 1, n + 8 * j, by omega, by go_num, by go_num, by omega, HN2, HK2, HB⟩
              case measure => simp [intOf]; omega
        · obtain rfl : i = L := by omega
          have HE : Hid (Blk wr r 4 (bv T).toArray) := Lib.hid (by
            obtain ⟨cur, h1, h2⟩ := HK.out
            rw [h2.full (by rw [HTL.out, HN.out, HTO.out]; exact Nat.le_refl _)] at h1; exact h1)
          have HZ : Hid (Below g w wr) := Lib.hid (HB0.out.trans (HB.out.mono hgr0))
          clear HK
          go_wp2
          go_ret
          exact ⟨_, rfl, RdT.of_blk HE.out (by rw [bv_len, HTL.out]) (by rw [bv_len, HTL.out]; exact Nat.le_refl _) (by unfold maxLen; omega), HZ.out⟩
end Go.Proofs.YtopfdmmimgnciaaGreatDoor
