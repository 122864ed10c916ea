/-
  WALKS: spec.AZTaken, of a symbol that is not compact.
-/
import Derived.Test.YtgihmnecllanfaaAz2
import Derived.Test.YtgihmnecllanfaaAz4
namespace Go.Proofs.Ytgihmnecllanfaa
open Go.RowKit

private theorem w64 (x : Int) (h0 : -1000000 ≤ x) (h1 : x ≤ 1000000) : IntKind.i64.wrap x = x := by rw [IntKind.wrap_i64]; omega
set_option maxRecDepth 100000 in
set_option maxHeartbeats 40000000 in
theorem taken_full (c : Bool) (L : Nat) (v : Value) (rows : List (List Bool)) (w : World) (hv : RowsT w v rows) (hH : rows.length = wholeN c L) (hr : ∀ r ∈ rows, r.length = wholeN c L) (hL1 : 1 ≤ L) (hL : L ≤ 32) (hc : c = false) :
    Calls Try.prog 12 #[v, .bool c, .int .i64 L] w fun e w' => ∃ v', e = .returned v' ∧ Rd w' w'.heap.size v' (bv (takU c L (bitOf rows) L)) ∧ Below w.heap.size w w' := by
  subst hc
  obtain ⟨i0, hi0, hz0, hz1, hz2⟩ := info_parts info_bool
  have hwl := wholeN_le false L hL
  have hsl := sideN_le false L hL
  obtain ⟨b, o, cap, rfl, h1, h2, HR⟩ := hv.at_ (by omega)
  have hrl : ∀ y, y < wholeN false L → (rows.getD y []).length = wholeN false L := fun y hy => by rw [List.getD, List.getElem?_eq_getElem (by omega)]; exact hr _ (List.getElem_mem _)
  have HRL := Lib.hid hrl
  have HV := Lib.hid hv
  have HHH := Lib.hid hH
  rw [hH] at h1 ⊢
  have hcell : ∀ x y, x < wholeN false L → y < wholeN false L → ∃ by_ oy cy, w.cell? ⟨b, o + y, none⟩ = some (.slice (some ⟨by_, oy, none⟩) (wholeN false L) cy) ∧ wholeN false L ≤ cy ∧ cy ≤ 9223372036854775807 ∧ w.cell? ⟨by_, oy + x, none⟩ = some (.bool (bitOf rows x y)) := fun x y hx hy => by
    obtain ⟨u, hc, hu⟩ := HR.out y (by rw [HHH.out]; exact hy)
    have hl := HRL.out y hy
    obtain ⟨by_, oy, cy, rfl, hcy1, hcy2, HC⟩ := row_at hu (by omega)
    rw [hl] at hc hcy1 HC
    exact ⟨by_, oy, cy, hc, hcy1, hcy2, HC.out x hx⟩
  have HCELL := Lib.hid hcell
  clear hcell hr hrl hH hv HR HV
  have HPl := Lib.hid (places_any false L w hL1 hL)
  generalize bitOf rows = f at *
  go_enter Try.func12, Try.ntmps12
  go_wp2_with fail
  refine HPl.out.mono ?_
  rintro e w1 ⟨g, rfl, hg, hgs, hb1⟩
  have HG := Lib.hid hg; have HB1 := Lib.hid hb1; clear hg hb1
  have hP : ∀ wr, Below w1.heap.size w1 wr → ∀ q, q < sideN false L → wr.cell? ⟨g, q, none⟩ = some (.int .i64 ((placeN false L q : Nat) : Int)) := fun wr hb q hq => by
    rw [(HG.out.up hb).cell, nvl_getD _ _ (by rw [placesL_len]; exact hq), placesL_at false L q hq]
  obtain ⟨S, hS⟩ : ∃ x, x = sideN false L := ⟨_, rfl⟩
  rw [← hS] at hP hsl ⊢
  have HSS := Lib.hid hS.symm; clear hS
  obtain ⟨pl, hpl⟩ : ∃ x : Nat → Nat, x = placeN false L := ⟨_, rfl⟩
  rw [← hpl] at hP
  have hq : ∀ q, q < S → pl q < wholeN false L := fun q hq => by rw [hpl]; exact placeN_lt false L q (by rw [HSS.out]; exact hq)
  have HQ := Lib.hid hq; clear hq
  have HPLN := Lib.hid hpl; clear hpl
  have HP := Lib.hid hP; clear hP
  have hls : ∀ i, i < L → longN false L i + 2 * i + 2 * i + 2 = sideN false L := long_side false L
  have HLS := Lib.hid hls; clear hls
  go_wp2_with fail
  go_loopw [10, 11] (fun ov iv wr => ∃ (i N : Nat), i ≤ L ∧ iv = .int .i64 i ∧ N ≤ 1120 * i ∧ Hid (N = (takU false L f i).length) ∧ Hid (wr.ownsRow w1.heap.size 4 1 ov N (bv (takU false L f i))) ∧ Hid (Below w1.heap.size w1 wr)) (fun _ iv _ => L - (intOf iv).toNat)
  case atStart => exact ⟨0, 0, Nat.zero_le _, rfl, by omega, Lib.hid rfl, Lib.hid (own_nil _ _ _), Lib.hid (brf w1)⟩
  case round =>
    obtain ⟨i, N, hi, rfl, hN, HN, HO, HB⟩ := hrel
    by_cases hlt : i < L
    · have hll := HLS.out i hlt
      have hlle := longN_le false L i hL
      have hlc : longN false L i = 4 * (L - i) + (if false then 9 else 12) := rfl
      have hlc2 : 4 * ((L : Int) - (i : Int)) + 12 = (longN false L i : Int) := by rw [hlc]; simp; omega
      clear hlc
      rw [HSS.out] at hll
      obtain ⟨l, hlg⟩ : ∃ l, l = longN false L i := ⟨_, rfl⟩
      rw [← hlg] at hll hlle hlc2
      have HLG := Lib.hid hlg; clear hlg
      go_wp2_with fail
      clear hlc2
      obtain ⟨wo, rfl⟩ : ∃ wo : World, wo = wr := ⟨_, rfl⟩
      go_loopw [10, 13] (fun ov kv wr => ∃ (k M : Nat), k ≤ 4 ∧ kv = .int .i64 k ∧ M ≤ N + 280 * k ∧ Hid (M = (takU false L f i ++ layU false L f i k).length) ∧ Hid (wr.ownsRow w1.heap.size 4 1 ov M (bv (takU false L f i ++ layU false L f i k))) ∧ Hid (Below w1.heap.size w1 wr)) (fun _ kv _ => 4 - (intOf kv).toNat)
      case atStart => exact ⟨0, N, by omega, rfl, by omega, Lib.hid (by rw [HN.out]; simp [layU]), by simpa [layU] using HO, HB⟩
      case round =>
        rename World => wk
        clear HN HO HB
        obtain ⟨k, M, hk, rfl, hM, HN, HO, HB⟩ := hrel
        by_cases hk4 : k < 4
        · have hk4i : (k : Int) < 4 := by omega
          go_wp2_with fail
          clear hk4i
          go_loopw [10, 14] (fun ov jv wr => ∃ (j R : Nat), j ≤ 2 * l ∧ jv = .int .i64 j ∧ R ≤ M + j ∧ Hid (R = (takU false L f i ++ layU false L f i k ++ (List.range j).map (bitZ false L f i k)).length) ∧ Hid (wr.ownsRow w1.heap.size 4 1 ov R (bv (takU false L f i ++ layU false L f i k ++ (List.range j).map (bitZ false L f i k)))) ∧ Hid (Below w1.heap.size w1 wr)) (fun _ jv _ => 2 * l - (intOf jv).toNat)
          case atStart => exact ⟨0, M, by omega, rfl, by omega, Lib.hid (by rw [HN.out]; simp), by simpa using HO, HB⟩
          case round =>
            rename World => wj
            clear HN HO HB
            obtain ⟨j, R, hj, rfl, hR, HN, HO, HB⟩ := hrel
            by_cases hjl : j < 2 * l
            · have hjl2 := hjl
              have HN2 : Hid (R + 1 = (takU false L f i ++ layU false L f i k ++ (List.range (j + 1)).map (bitZ false L f i k)).length) := Lib.hid (by rw [HN.out]; simp; omega)
              have HOE : Hid (bv (takU false L f i ++ layU false L f i k ++ (List.range (j + 1)).map (bitZ false L f i k)) = bv (takU false L f i ++ layU false L f i k ++ (List.range j).map (bitZ false L f i k)) ++ [.bool (bitZ false L f i k j)]) := Lib.hid (by
                rw [List.range_succ, List.map_append, ← List.append_assoc]; unfold bv; rw [List.map_append]; rfl)
              obtain ⟨bs2, hbs2⟩ : ∃ x, x = (takU false L f i ++ layU false L f i k ++ (List.range (j + 1)).map (bitZ false L f i k)) := ⟨_, rfl⟩
              rw [← hbs2] at HN2 HOE
              have HBS := Lib.hid hbs2; clear hbs2
              generalize (takU false L f i ++ layU false L f i k ++ (List.range j).map (bitZ false L f i k)) = bs at *
              obtain ⟨bz, hbz⟩ : ∃ b, b = bitZ false L f i k j := ⟨_, rfl⟩
              rw [← hbz] at HOE
              have HBZ := Lib.hid hbz; clear hbz
              have m1 : Int.tmod (j : Int) 2 = ((j % 2 : Nat) : Int) := by rw [Int.tmod_eq_emod_of_nonneg (by omega)]; simp
              have m2 : Int.tdiv (j : Int) 2 = ((j / 2 : Nat) : Int) := by rw [Int.tdiv_eq_ediv_of_nonneg (by omega)]; simp
              obtain ⟨I0, HI0, z0, n0, m3⟩ := numAdd (2 * i) (j % 2) S (by omega) (by omega)
              obtain ⟨I2, HI2, z2, n2, m5⟩ := numAdd (2 * i) (j / 2) S (by omega) (by omega)
              obtain ⟨I1, HI1, z1, n1, m4⟩ := numSub (S - 1 - 2 * i) (j % 2) S (by omega) (by omega) (by omega)
              obtain ⟨I3, HI3, z3, n3, m6⟩ := numSub (S - 1 - 2 * i) (j / 2) S (by omega) (by omega) (by omega)
              obtain ⟨jm, hjm⟩ : ∃ x, x = j % 2 := ⟨_, rfl⟩
              obtain ⟨jd, hjd⟩ : ∃ x, x = j / 2 := ⟨_, rfl⟩
              rw [← hjm] at m1 m3 m4
              rw [← hjd] at m2 m5 m6
              have n4 := w64 (jm : Int) (by omega) (by omega)
              have n5 := w64 (jd : Int) (by omega) (by omega)
              obtain ⟨lo, hlo⟩ : ∃ x, x = 2 * i := ⟨_, rfl⟩
              obtain ⟨hh, hhh⟩ : ∃ x, x = S - 1 - 2 * i := ⟨_, rfl⟩
              obtain ⟨S1, hS1⟩ : ∃ x, x = S - 1 := ⟨_, rfl⟩
              rw [← hlo] at m3 m5
              rw [← hhh] at m4 m6
              have m7 : 2 * (i : Int) = (lo : Int) := by omega
              have m8 : (S : Int) - 1 = (S1 : Int) := by omega
              have m9 : (S1 : Int) - (lo : Int) = (hh : Int) := by omega
              have n7 := w64 (lo : Int) (by omega) (by omega)
              have n8 := w64 (S1 : Int) (by omega) (by omega)
              have n9 := w64 (hh : Int) (by omega) (by omega)
              clear hjm hjd hlo hhh hS1
              have cN := HP.out _ HB.out I0 z0
              have cF := HP.out _ HB.out I1 z1
              have cA := HP.out _ HB.out I2 z2
              have cK := HP.out _ HB.out I3 z3
              go_wp2_with fail
              refine Can.wp_region_can (fun w' => w'.cell? ⟨g, I0, none⟩ = some (.int .i64 ((pl I0 : Nat) : Int)) ∧ w'.cell? ⟨g, I1, none⟩ = some (.int .i64 ((pl I1 : Nat) : Int))) 999 [0, 1, 2, 3, 4, 5, 6, 7, 8, 9, 10, 11, 12, 13, 14, 15, 16, 17, 18, 19, 20] (by kernel_rfl) (by kernel_rfl) (fun _ _ d _ _ h => by cases d <;> exact h) ⟨cN, cF⟩ (fun hHeld => ?_)
              repeat (refine Can.can_pure (v := ?_) rfl rfl (Or.inl ⟨by rfl, ?_⟩) ?_; rotate_left; (focus ((intro w hSw); (try dsimp only at hSw); go_simp; (try with_reducible rfl))); (try simp only [Act.put, List.getElem_toArray, List.getElem_cons_succ, List.getElem_cons_zero, List.setIfInBounds_toArray, List.set_cons_zero, List.set_cons_succ]))
              refine Can.can_done ?_
              have c19 := cell_up cA (bdr (brf wj))
              have c20 := cell_up cK (bdr (brf wj))
              have HB4 := Lib.hid (bdr HB.out)
              have HO4 : Hid (World.ownsRow wj.drew w1.heap.size 4 1 u10 R (bv bs)) := HO
              clear hHeld cN cF cA cK HB HO
              generalize World.drew wj = wq at *
              go_wp2_with fail
              refine Can.wp_region_can (fun w' => w'.cell? ⟨g, I2, none⟩ = some (.int .i64 ((pl I2 : Nat) : Int)) ∧ w'.cell? ⟨g, I3, none⟩ = some (.int .i64 ((pl I3 : Nat) : Int))) 999 [0, 1, 2, 3, 4, 5, 6, 7, 8, 9, 10, 11, 12, 13, 14, 15, 16, 17, 18, 19, 20] (by kernel_rfl) (by kernel_rfl) (fun _ _ d _ _ h => by cases d <;> exact h) ⟨c19, c20⟩ (fun hHeld => ?_)
              repeat (refine Can.can_pure (v := ?_) rfl rfl (Or.inl ⟨by rfl, ?_⟩) ?_; rotate_left; (focus ((intro w hSw); (try dsimp only at hSw); go_simp; (try with_reducible rfl))); (try simp only [Act.put, List.getElem_toArray, List.getElem_cons_succ, List.getElem_cons_zero, List.setIfInBounds_toArray, List.set_cons_zero, List.set_cons_succ]))
              refine Can.can_done ?_
              have HB5 := Lib.hid (bdr HB4.out)
              have HO5 : Hid (World.ownsRow wq.drew w1.heap.size 4 1 u10 R (bv bs)) := HO4
              have hb5 := HB5.out.size
              clear hHeld c19 c20 HB4 HO4 n0 n1 n2 n3 n4 n5 n7 n8 n9 m1 m2 m3 m4 m5 m6 m7 m8 m9
              generalize World.drew wq = wt at *
              have hkc : k = 0 ∨ k = 1 ∨ k = 2 ∨ k = 3 := by omega
              rcases hkc with hkv | hkv | hkv | hkv
              · have hbz2 : bz = f (pl I0) (pl I2) := by
                  have h0 := HI0.out; have h1 := HI1.out; have h2 := HI2.out; have h3 := HI3.out
                  subst h0 h1 h2 h3
                  rw [HBZ.out, hkv, HPLN.out]
                  (try rw [← HSS.out])
                  rfl
                have t1 : ((k : Int) == 1) = false := by simp; omega
                have t2 : ((k : Int) == 2) = false := by simp; omega
                have t3 : ((k : Int) == 3) = false := by simp; omega
                clear hkv
                obtain ⟨by_, oy, cy, hcy, hcl, hcm, hcx⟩ := HCELL.out (pl I0) (pl I2) (HQ.out _ (by assumption)) (HQ.out _ (by assumption))
                have hcy5 := cell_up (cell_up hcy HB1.out) HB5.out
                have hcx5 := cell_up (cell_up hcx HB1.out) HB5.out
                rw [← hbz2] at hcx5
                have hbx1 := HQ.out I0 (by assumption)
                have hbx2 := HQ.out I2 (by assumption)
                clear hcy hcx hbz2
                generalize pl I0 = pN at *
                generalize pl I1 = pF at *
                generalize pl I2 = pA at *
                generalize pl I3 = pK at *
                go_wp2_with (with_reducible refine stop_at (o := ⟨some 117, _, _, _, _, _⟩) ?_)
                refine Lib.hid ?_
                refine list_app_rd _ rfl _ _ 22 rfl w1.heap.size 4 i0 _ 1 Try.underlying22 hi0 hz0 hz1 hz2 rfl _ R (bv bs) rfl (HO5.out.alloc _) _ _ [.bool bz] rfl (Rd.one rfl _ _) (fun u hu => by simp at hu; subst hu; rfl) (by simp only [List.length_singleton]; unfold maxLen; omega) (by simp only [List.length_singleton]; omega) (by simp; omega) ?_
                intro v1 w3 ho1 hg1
                have HB6 := Lib.hid (below_grown (HB5.out.alloc hb5 (.cells #[.bool bz] 4)) hg1 (HO5.out.alloc _) (by simp; omega))
                have HO6 : Hid (w3.ownsRow w1.heap.size 4 1 v1 (R + 1) (bv bs2)) := Lib.hid (by rw [HOE.out]; exact ho1)
                clear ho1 hg1 HO5 HB5 hcy5 hcx5
                go_wp2
                go_roundw
                case rel => exact ⟨j + 1, R + 1, by omega, by go_num, by omega, by rw [← HBS.out]; exact HN2, by rw [← HBS.out]; exact HO6, HB6⟩
                case measure => simp [intOf]; omega
              · have hbz2 : bz = f (pl I2) (pl I1) := by
                  have h0 := HI0.out; have h1 := HI1.out; have h2 := HI2.out; have h3 := HI3.out
                  subst h0 h1 h2 h3
                  rw [HBZ.out, hkv, HPLN.out]
                  (try rw [← HSS.out])
                  rfl
                have t1 : ((k : Int) == 1) = true := by simp; omega
                have t2 : ((k : Int) == 2) = false := by simp; omega
                have t3 : ((k : Int) == 3) = false := by simp; omega
                clear hkv
                obtain ⟨by_, oy, cy, hcy, hcl, hcm, hcx⟩ := HCELL.out (pl I2) (pl I1) (HQ.out _ (by assumption)) (HQ.out _ (by assumption))
                have hcy5 := cell_up (cell_up hcy HB1.out) HB5.out
                have hcx5 := cell_up (cell_up hcx HB1.out) HB5.out
                rw [← hbz2] at hcx5
                have hbx1 := HQ.out I2 (by assumption)
                have hbx2 := HQ.out I1 (by assumption)
                clear hcy hcx hbz2
                generalize pl I0 = pN at *
                generalize pl I1 = pF at *
                generalize pl I2 = pA at *
                generalize pl I3 = pK at *
                go_wp2_with (with_reducible refine stop_at (o := ⟨some 117, _, _, _, _, _⟩) ?_)
                refine Lib.hid ?_
                refine list_app_rd _ rfl _ _ 22 rfl w1.heap.size 4 i0 _ 1 Try.underlying22 hi0 hz0 hz1 hz2 rfl _ R (bv bs) rfl (HO5.out.alloc _) _ _ [.bool bz] rfl (Rd.one rfl _ _) (fun u hu => by simp at hu; subst hu; rfl) (by simp only [List.length_singleton]; unfold maxLen; omega) (by simp only [List.length_singleton]; omega) (by simp; omega) ?_
                intro v1 w3 ho1 hg1
                have HB6 := Lib.hid (below_grown (HB5.out.alloc hb5 (.cells #[.bool bz] 4)) hg1 (HO5.out.alloc _) (by simp; omega))
                have HO6 : Hid (w3.ownsRow w1.heap.size 4 1 v1 (R + 1) (bv bs2)) := Lib.hid (by rw [HOE.out]; exact ho1)
                clear ho1 hg1 HO5 HB5 hcy5 hcx5
                go_wp2
                go_roundw
                case rel => exact ⟨j + 1, R + 1, by omega, by go_num, by omega, by rw [← HBS.out]; exact HN2, by rw [← HBS.out]; exact HO6, HB6⟩
                case measure => simp [intOf]; omega
              · have hbz2 : bz = f (pl I1) (pl I3) := by
                  have h0 := HI0.out; have h1 := HI1.out; have h2 := HI2.out; have h3 := HI3.out
                  subst h0 h1 h2 h3
                  rw [HBZ.out, hkv, HPLN.out]
                  (try rw [← HSS.out])
                  rfl
                have t1 : ((k : Int) == 1) = false := by simp; omega
                have t2 : ((k : Int) == 2) = true := by simp; omega
                have t3 : ((k : Int) == 3) = false := by simp; omega
                clear hkv
                obtain ⟨by_, oy, cy, hcy, hcl, hcm, hcx⟩ := HCELL.out (pl I1) (pl I3) (HQ.out _ (by assumption)) (HQ.out _ (by assumption))
                have hcy5 := cell_up (cell_up hcy HB1.out) HB5.out
                have hcx5 := cell_up (cell_up hcx HB1.out) HB5.out
                rw [← hbz2] at hcx5
                have hbx1 := HQ.out I1 (by assumption)
                have hbx2 := HQ.out I3 (by assumption)
                clear hcy hcx hbz2
                generalize pl I0 = pN at *
                generalize pl I1 = pF at *
                generalize pl I2 = pA at *
                generalize pl I3 = pK at *
                go_wp2_with (with_reducible refine stop_at (o := ⟨some 117, _, _, _, _, _⟩) ?_)
                refine Lib.hid ?_
                refine list_app_rd _ rfl _ _ 22 rfl w1.heap.size 4 i0 _ 1 Try.underlying22 hi0 hz0 hz1 hz2 rfl _ R (bv bs) rfl (HO5.out.alloc _) _ _ [.bool bz] rfl (Rd.one rfl _ _) (fun u hu => by simp at hu; subst hu; rfl) (by simp only [List.length_singleton]; unfold maxLen; omega) (by simp only [List.length_singleton]; omega) (by simp; omega) ?_
                intro v1 w3 ho1 hg1
                have HB6 := Lib.hid (below_grown (HB5.out.alloc hb5 (.cells #[.bool bz] 4)) hg1 (HO5.out.alloc _) (by simp; omega))
                have HO6 : Hid (w3.ownsRow w1.heap.size 4 1 v1 (R + 1) (bv bs2)) := Lib.hid (by rw [HOE.out]; exact ho1)
                clear ho1 hg1 HO5 HB5 hcy5 hcx5
                go_wp2
                go_roundw
                case rel => exact ⟨j + 1, R + 1, by omega, by go_num, by omega, by rw [← HBS.out]; exact HN2, by rw [← HBS.out]; exact HO6, HB6⟩
                case measure => simp [intOf]; omega
              · have hbz2 : bz = f (pl I3) (pl I0) := by
                  have h0 := HI0.out; have h1 := HI1.out; have h2 := HI2.out; have h3 := HI3.out
                  subst h0 h1 h2 h3
                  rw [HBZ.out, hkv, HPLN.out]
                  (try rw [← HSS.out])
                  rfl
                have t1 : ((k : Int) == 1) = false := by simp; omega
                have t2 : ((k : Int) == 2) = false := by simp; omega
                have t3 : ((k : Int) == 3) = true := by simp; omega
                clear hkv
                obtain ⟨by_, oy, cy, hcy, hcl, hcm, hcx⟩ := HCELL.out (pl I3) (pl I0) (HQ.out _ (by assumption)) (HQ.out _ (by assumption))
                have hcy5 := cell_up (cell_up hcy HB1.out) HB5.out
                have hcx5 := cell_up (cell_up hcx HB1.out) HB5.out
                rw [← hbz2] at hcx5
                have hbx1 := HQ.out I3 (by assumption)
                have hbx2 := HQ.out I0 (by assumption)
                clear hcy hcx hbz2
                generalize pl I0 = pN at *
                generalize pl I1 = pF at *
                generalize pl I2 = pA at *
                generalize pl I3 = pK at *
                go_wp2_with (with_reducible refine stop_at (o := ⟨some 117, _, _, _, _, _⟩) ?_)
                refine Lib.hid ?_
                refine list_app_rd _ rfl _ _ 22 rfl w1.heap.size 4 i0 _ 1 Try.underlying22 hi0 hz0 hz1 hz2 rfl _ R (bv bs) rfl (HO5.out.alloc _) _ _ [.bool bz] rfl (Rd.one rfl _ _) (fun u hu => by simp at hu; subst hu; rfl) (by simp only [List.length_singleton]; unfold maxLen; omega) (by simp only [List.length_singleton]; omega) (by simp; omega) ?_
                intro v1 w3 ho1 hg1
                have HB6 := Lib.hid (below_grown (HB5.out.alloc hb5 (.cells #[.bool bz] 4)) hg1 (HO5.out.alloc _) (by simp; omega))
                have HO6 : Hid (w3.ownsRow w1.heap.size 4 1 v1 (R + 1) (bv bs2)) := Lib.hid (by rw [HOE.out]; exact ho1)
                clear ho1 hg1 HO5 HB5 hcy5 hcx5
                go_wp2
                go_roundw
                case rel => exact ⟨j + 1, R + 1, by omega, by go_num, by omega, by rw [← HBS.out]; exact HN2, by rw [← HBS.out]; exact HO6, HB6⟩
                case measure => simp [intOf]; omega
            · obtain rfl : j = 2 * l := by omega
              have HN2 : Hid (R = (takU false L f i ++ layU false L f i (k + 1)).length) := Lib.hid (by rw [HN.out, layU_succ, List.append_assoc, HLG.out]; rfl)
              have HO2 : Hid (wj.ownsRow w1.heap.size 4 1 u10 R (bv (takU false L f i ++ layU false L f i (k + 1)))) := Lib.hid (by rw [layU_succ, ← List.append_assoc]; have := HO.out; rw [HLG.out] at this; exact this)
              clear HN HO
              go_wp2
              go_roundw
              case rel => exact ⟨k + 1, R, by omega, by go_num, by omega, HN2, HO2, HB⟩
              case measure => simp [intOf]; omega
        · obtain rfl : k = 4 := by omega
          have HN2 : Hid (M = (takU false L f (i + 1)).length) := Lib.hid (by rw [HN.out, takU_succ])
          have HO2 : Hid (wk.ownsRow w1.heap.size 4 1 u10 M (bv (takU false L f (i + 1)))) := Lib.hid (by rw [takU_succ]; exact HO.out)
          clear HN HO
          go_wp2
          go_roundw
          case rel => exact ⟨i + 1, M, by omega, by go_num, by omega, HN2, HO2, HB⟩
          case measure => simp [intOf]; omega
    · obtain rfl : i = L := by omega
      go_wp2
      go_ret
      exact ⟨_, rfl, Rd.of_own HO.out, bup HB1.out HB.out⟩
end Go.Proofs.Ytgihmnecllanfaa
