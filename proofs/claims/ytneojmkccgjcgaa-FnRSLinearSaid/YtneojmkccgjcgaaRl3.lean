/-
  THE LAW of sums of codes, walked.
-/
import Derived.Test.YtneojmkccgjcgaaRe6
namespace Go.Proofs.Ytneojmkccgjcgaa
open Go.RowKit

theorem Rd.take_ {w : World} {B : Nat} {A : Option Addr} {n cap k : Nat} {xs : List Value} (h : Rd w B (.slice A n cap) xs) (hk : k ≤ n) : Rd w B (.slice A k cap) (xs.take k) := by
  obtain ⟨A', cap', hv, h1, h2, h3⟩ := h
  injection hv with e1 e2 e3
  subst e1 e2 e3
  have hl : (xs.take k).length = k := by rw [List.length_take]; omega
  refine ⟨A, cap, by rw [hl], by rw [hl]; omega, h2, fun hl0 => ?_⟩
  rw [hl] at hl0
  obtain ⟨b, off, e, hb, hc⟩ := h3 (by omega)
  refine ⟨b, off, e, hb, fun j u hu => ?_⟩
  have hj : j < k := by have := (List.getElem?_eq_some_iff.1 hu).1; omega
  rw [List.getElem?_take_of_lt hj] at hu
  exact hc j u hu
theorem vals_take (k : IntKind) (xs : List Int) (n : Nat) : vals k (xs.take n) = (vals k xs).take n := by simp [vals]
theorem rwData_len' (F : Gf.Fd) (xs : List Int) (ec n : Nat) (hn : n ≤ xs.length) : (rwData F (xs.take n) ec).length = min (rwMost F - rwMany F ec) n := by
  unfold rwData; rw [List.length_map, List.length_take, List.length_take]; omega
/-- A slice that reads as numbers, its address known. -/
theorem rdt_at {w : World} {v : Value} {xs : List Nat} {m : Nat} (h : RdT w 3 v (nv xs)) (hm : xs.length = m) (h0 : 0 < m) :
    ∃ b o c, v = .slice (some ⟨b, o, none⟩) m c ∧ m ≤ c ∧ c ≤ 9223372036854775807 ∧ Hid (∀ j, j < m → w.cell? ⟨b, o + j, none⟩ = some (.int .i64 ((xs.getD j 0 : Nat) : Int))) := by
  obtain ⟨A, c, hv, k1, k2, k3⟩ := h.rd
  rw [nv_len, hm] at hv k1 k3
  obtain ⟨b, o, rfl, _, hc⟩ := k3 h0
  unfold maxLen at k2
  refine ⟨b, o, c, hv, k1, by omega, fun j hj => ?_⟩
  rw [getD_lt _ _ _ (by omega)]
  exact hc j _ (nv_at xs j (by omega))

set_option maxRecDepth 100000 in
set_option maxHeartbeats 4000000 in
theorem linear_walk (n : Nat) (hn : n < 256) (a b : Value) (xs ys : List Int) (ec : Nat) (hec : ec < 256) (w : World) (ha : Rd w w.heap.size a (vals .i64 xs)) (hb : Rd w w.heap.size b (vals .i64 ys)) :
    Calls Try.prog 8 #[.int .u8 n, a, b, .int .u8 ec] w fun e w' => e = .returned (.bool true) ∧ Below w.heap.size w w' := by
  have hF := fld_ok n
  have h12 := fld_12 n
  have hb1 := fld_b n
  have hs3 := fld_s n
  have hs12 := s_le (fld n) h12
  obtain ⟨b1, b2, b3, b4, b5, b6⟩ := rw_bounds (fld n) (fld_16 n) ec
  have ha0 := ha
  have hb0 := hb
  obtain ⟨A, ca, rfl, ha1, ha2, ha3⟩ := ha
  obtain ⟨C, cb, rfl, hb1', hb2, hb3⟩ := hb
  simp only [vals_len] at *
  unfold maxLen at ha2 hb2
  have HA := Lib.hid ha0; clear ha0
  have HB := Lib.hid hb0; clear hb0
  by_cases hbig : 2147483647 < xs.length
  · have e1 : decide ((2147483647 : Int) < (xs.length : Int)) = true := by simp; omega
    clear ha3 hb3
    go_enter Try.func8, Try.ntmps8
    go_wp2
    go_ret
    exact ⟨rfl, brf w⟩
  · have e1 : decide ((2147483647 : Int) < (xs.length : Int)) = false := by simp; omega
    by_cases hbig2 : 2147483647 < ys.length
    · have e2 : decide ((2147483647 : Int) < (ys.length : Int)) = true := by simp; omega
      clear ha3 hb3
      go_enter Try.func8, Try.ntmps8
      go_wp2
      go_ret
      exact ⟨rfl, brf w⟩
    · have e2 : decide ((2147483647 : Int) < (ys.length : Int)) = false := by simp; omega
      rcases Nat.lt_or_ge ys.length xs.length with hmn | hmn
      · have hmn1 : ¬ (xs.length : Int) ≤ (ys.length : Int) := by omega
        have hmn2 : (ys.length : Int) < (xs.length : Int) := by omega
        have hmn3 : ys.length ≤ ca := by omega
        have hR1 := HA.out.take_ (k := ys.length) (by omega)
        have hR2 := HB.out.take_ (k := ys.length) (by omega)
        rw [← vals_take] at hR1 hR2
        have hD1 := rwData_lt (fld n) (xs.take ys.length) ec
        have hD2 := rwData_lt (fld n) (ys.take ys.length) ec
        have hl1 := rwData_len' (fld n) xs ec ys.length (by omega)
        have hl2 := rwData_len' (fld n) ys ec ys.length (by omega)
        have hW1 := fun l W hl => rsWords_any (fld n) hs3 h12 l (xs.take ys.length) ec W hl hec
        have hW2 := fun l W hl => rsWords_any (fld n) hs3 h12 l (ys.take ys.length) ec W hl hec
        obtain ⟨m, hm⟩ : ∃ m, m = min (rwMost (fld n) - rwMany (fld n) ec) ys.length := ⟨_, rfl⟩
        rw [← hm] at hl1 hl2
        have hm4 : m ≤ 255 := by omega
        clear hm
        generalize rwData (fld n) (xs.take ys.length) ec = D1 at *
        generalize rwData (fld n) (ys.take ys.length) ec = D2 at *
        generalize rwMost (fld n) = M at *
        generalize rwMany (fld n) ec = K at *
        have HR := Lib.hid (And.intro hR1 hR2); clear hR1 hR2
        have HD := Lib.hid (And.intro hD1 hD2); clear hD1 hD2
        have HLn := Lib.hid (And.intro hl1 hl2); clear hl1 hl2
        have HWd1 := Lib.hid hW1; clear hW1
        have HWd2 := Lib.hid hW2; clear hW2
        go_enter Try.func8, Try.ntmps8
        go_wp2_with fail
        refine (field_any n _ hn).mono ?_
        rintro e w1 ⟨rfl, hbf⟩
        unfold fdV
        generalize fld n = F at *
        have HB1 := Lib.hid hbf; clear hbf
        obtain ⟨wb, hwb⟩ : ∃ wb, wb = w1.alloc (.cells #[.int .i64 F.p, .int .i64 F.s, .int .i64 F.b] 26) := ⟨_, rfl⟩
        have HBk : Hid (Blk wb w1.heap.size 26 #[.int .i64 F.p, .int .i64 F.s, .int .i64 F.b]) := Lib.hid (by rw [hwb]; exact Blk.fresh _ _ _)
        have HBb : Hid (Below w.heap.size w wb) := Lib.hid (by rw [hwb]; exact bal HB1.out _)
        have HWB := Lib.hid hwb.symm; clear hwb e1 e2
        obtain ⟨x0, x1, x2⟩ := HBk.out.three
        go_wp2_with fail
        rw [HWB.out]
        refine Can.wp_region_can (fun w' => w'.cell? ⟨w1.heap.size, 0, none⟩ = some (.int .i64 F.p) ∧ w'.cell? ⟨w1.heap.size, 1, none⟩ = some (.int .i64 F.s) ∧ w'.cell? ⟨w1.heap.size, 2, none⟩ = some (.int .i64 F.b) ∧ Below w.heap.size w w') 999 [0, 1, 2, 3, 4, 5, 6, 7, 8, 9, 10, 11, 12] (by kernel_rfl) (by kernel_rfl) (fun _ _ d _ _ h => by cases d <;> exact h) ⟨x0, x1, x2, bdr HBb.out⟩ (fun hHeld => ?_)
        repeat (refine Can.can_pure (v := ?_) rfl rfl (Or.inl ⟨by rfl, ?_⟩) ?_; rotate_left; (focus ((intro w hSw); (try dsimp only at hSw); go_simp; (try with_reducible rfl))); (try simp only [Act.put, List.getElem_toArray, List.getElem_cons_succ, List.getElem_cons_zero, List.setIfInBounds_toArray, List.set_cons_zero, List.set_cons_succ]))
        refine Can.can_eff rfl rfl (by rfl) (fun K hK => ?_)
        go_simp
        refine (HWd1.out _ _ (HR.out.1.up hHeld.2.2.2)).mono ?_
        rintro e w2 ⟨v1, rfl, hv1, hb2'⟩
        refine hK.out _ _ ⟨cell_up hHeld.1 hb2', cell_up hHeld.2.1 hb2', cell_up hHeld.2.2.1 hb2', bup hHeld.2.2.2 hb2'⟩ (fun hHeld1 => ?_)
        clear hK K
        (try simp only [Act.put, List.getElem_toArray, List.getElem_cons_succ, List.getElem_cons_zero, List.setIfInBounds_toArray, List.set_cons_zero, List.set_cons_succ])
        repeat (refine Can.can_pure (v := ?_) rfl rfl (Or.inl ⟨by rfl, ?_⟩) ?_; rotate_left; (focus ((intro w hSw); (try dsimp only at hSw); go_simp; (try with_reducible rfl))); (try simp only [Act.put, List.getElem_toArray, List.getElem_cons_succ, List.getElem_cons_zero, List.setIfInBounds_toArray, List.set_cons_zero, List.set_cons_succ]))
        refine Can.can_done ?_
        have HV1 := Lib.hid hv1; clear hv1
        obtain ⟨x0, x1, x2, hB2⟩ := hHeld1
        have HB2 := Lib.hid hB2; clear hB2 hHeld hb2'
        go_wp2_with fail
        refine Can.wp_region_can (fun w' => w'.cell? ⟨w1.heap.size, 0, none⟩ = some (.int .i64 F.p) ∧ w'.cell? ⟨w1.heap.size, 1, none⟩ = some (.int .i64 F.s) ∧ w'.cell? ⟨w1.heap.size, 2, none⟩ = some (.int .i64 F.b) ∧ Below w2.heap.size w2 w') 999 [0, 1, 2, 3, 4, 5, 6, 7, 8, 9, 10, 11, 12] (by kernel_rfl) (by kernel_rfl) (fun _ _ d _ _ h => by cases d <;> exact h) ⟨x0, x1, x2, bdr (brf _)⟩ (fun hHeld => ?_)
        repeat (refine Can.can_pure (v := ?_) rfl rfl (Or.inl ⟨by rfl, ?_⟩) ?_; rotate_left; (focus ((intro w hSw); (try dsimp only at hSw); go_simp; (try with_reducible rfl))); (try simp only [Act.put, List.getElem_toArray, List.getElem_cons_succ, List.getElem_cons_zero, List.setIfInBounds_toArray, List.set_cons_zero, List.set_cons_succ]))
        refine Can.can_eff rfl rfl (by rfl) (fun K hK => ?_)
        go_simp
        refine (HWd2.out _ _ (HR.out.2.up (bup HB2.out hHeld.2.2.2))).mono ?_
        rintro e w3 ⟨v2, rfl, hv2, hb3'⟩
        refine hK.out _ _ ⟨cell_up hHeld.1 hb3', cell_up hHeld.2.1 hb3', cell_up hHeld.2.2.1 hb3', bup hHeld.2.2.2 hb3'⟩ (fun hHeld1 => ?_)
        clear hK K
        (try simp only [Act.put, List.getElem_toArray, List.getElem_cons_succ, List.getElem_cons_zero, List.setIfInBounds_toArray, List.set_cons_zero, List.set_cons_succ])
        repeat (refine Can.can_pure (v := ?_) rfl rfl (Or.inl ⟨by rfl, ?_⟩) ?_; rotate_left; (focus ((intro w hSw); (try dsimp only at hSw); go_simp; (try with_reducible rfl))); (try simp only [Act.put, List.getElem_toArray, List.getElem_cons_succ, List.getElem_cons_zero, List.setIfInBounds_toArray, List.set_cons_zero, List.set_cons_succ]))
        refine Can.can_done ?_
        have HV2 := Lib.hid hv2; clear hv2 x0 x1 x2
        obtain ⟨x0, x1, x2, hB3⟩ := hHeld1
        have HV1' := Lib.hid (HV1.out.up hB3); clear HV1
        have HB3 := Lib.hid (bup HB2.out hB3); clear hB3 hHeld hb3' HB2
        rw [HLn.out.1, HLn.out.2]
        by_cases hm0 : 0 < m
        · have hdt : decide (0 < m) = true := by simpa using hm0
          rw [hdt]
          clear hdt
          obtain ⟨p1, o1, c1, rfl, j1, j2, HC1⟩ := rdt_at HV1'.out HLn.out.1 hm0
          obtain ⟨p2, o2, c2, rfl, j3, j4, HC2⟩ := rdt_at HV2.out HLn.out.2 hm0
          have hSl : (Gf.xo D1 D2).length = m := by rw [Gf.xo_len]; exact HLn.out.1
          have hSt := Gf.xo_lt D1 D2 HD.out.1 HD.out.2
          have hSa := fun i (hi : i < m) => Gf.xo_at D1 D2 i (by rw [HLn.out.1]; exact hi)
          have hEx := Gf.enc_xor (F := F) hF (n := K) (p := D1) (q := D2) (by rw [HLn.out.1, HLn.out.2]) HD.out.1 HD.out.2
          obtain ⟨S, hS⟩ : ∃ S, S = Gf.xo D1 D2 := ⟨_, rfl⟩
          rw [← hS] at hSl hSt hSa hEx
          have HS := Lib.hid (And.intro hSl (And.intro hSt (And.intro hSa hEx))); clear hSl hSt hSa hEx hS
          have hmk := fun W => mk_ints m W (by omega)
          go_wp2_with fail
          clear hmk
          go_loopw [18] (fun iv wr => ∃ (i : Nat), i ≤ m ∧ iv = .int .i64 i ∧ Hid (Blk wr w3.heap.size 3 (nv (fillA S 0 m i)).toArray) ∧ Hid (Below w3.heap.size w3 wr)) (fun iv _ => m - (intOf iv).toNat)
          case atStart => exact ⟨0, Nat.zero_le _, rfl, Lib.hid (by rw [fill_zero]; exact Blk.fresh w3 _ _), Lib.hid (bal (brf w3) _)⟩
          case round =>
            obtain ⟨i, hi, rfl, HBx, HWx⟩ := hrel
            by_cases hlt : i < m
            · have hPi : i < S.length := by rw [HS.out.1]; exact hlt
              have hfl := fill_len S 0 m i (by omega) (by rw [HS.out.1]; exact Nat.le_refl _)
              have hset := fill_set S 0 m i hPi (by rw [HS.out.1]; exact Nat.le_refl _)
              have hv := HS.out.2.2.1 i hlt
              rw [getD_lt S _ _ hPi] at hv
              rw [hv] at hset
              have cA := cell_up (HC1.out i hlt) HWx.out
              have cB := cell_up (HC2.out i hlt) HWx.out
              have ha8 : D1.getD i 0 < F.s := by rw [getD_lt _ _ _ (by rw [HLn.out.1]; exact hlt)]; exact HD.out.1 _ (List.getElem_mem _)
              have hb8 : D2.getD i 0 < F.s := by rw [getD_lt _ _ _ (by rw [HLn.out.2]; exact hlt)]; exact HD.out.2 _ (List.getElem_mem _)
              have cO : wr.cell? ⟨w3.heap.size, i, none⟩ = some (.int .i64 (((fillA S 0 m i)[i]'(by omega) : Nat) : Int)) := by rw [HBx.out.cell]; exact nv_cell _ _ (by omega)
              have fO : wr.frozen? ⟨w3.heap.size, i, none⟩ = false := HBx.out.frozen _
              generalize (fillA S 0 m i)[i]'(by omega) = o at *
              generalize D1.getD i 0 = x at *
              generalize D2.getD i 0 = y at *
              have e2 := i64_xor x y (by omega) (by omega)
              have HB2 := Lib.hid (HBx.out.drew.put i (.int .i64 ((x ^^^ y : Nat) : Int)))
              have HW2 := Lib.hid (HWx.out.drew.setCell (p := ⟨w3.heap.size, i, none⟩) (Nat.le_refl _) (.int .i64 ((x ^^^ y : Nat) : Int)))
              rw [nv_set, hset] at HB2
              clear hset hv hPi hfl HBx HWx
              go_wp2
              refine Can.wp_region_can (fun w' => w'.cell? ⟨p1, o1 + i, none⟩ = some (.int .i64 ((x : Nat) : Int)) ∧ w'.cell? ⟨p2, o2 + i, none⟩ = some (.int .i64 ((y : Nat) : Int)) ∧ w'.cell? ⟨w3.heap.size, i, none⟩ = some (.int .i64 ((o : Nat) : Int)) ∧ w'.frozen? ⟨w3.heap.size, i, none⟩ = false) 12 [0, 1, 2, 3, 4, 5, 6, 7, 8, 9, 10, 11, 12] (by kernel_rfl) (by kernel_rfl) (fun _ _ d _ _ h => by cases d <;> exact h) ⟨cA, cB, cO, fO⟩ (fun hHeld => ?_)
              repeat (refine Can.can_pure (v := ?_) rfl rfl (Or.inl ⟨by rfl, ?_⟩) ?_; rotate_left; (focus ((intro w hSw); (try dsimp only at hSw); go_simp; (try with_reducible rfl))); (try simp only [Act.put, List.getElem_toArray, List.getElem_cons_succ, List.getElem_cons_zero, List.setIfInBounds_toArray, List.set_cons_zero, List.set_cons_succ]))
              have f1 := hHeld.2.2.2
              have c3 := hHeld.2.2.1
              refine Can.can_tail rfl rfl (by rfl) (fun K hK => ?_)
              go_simp
              refine hK.out _ _ ?_
              clear hK K
              clear hHeld f1 c3 cA cB cO fO
              go_wp2
              go_roundw
              case rel => exact ⟨i + 1, by omega, by go_num, HB2, HW2⟩
              case measure => simp [intOf]; omega
            · obtain rfl : i = m := by omega
              have HSv : Hid (RdT wr 3 (.slice (some ⟨w3.heap.size, 0, none⟩) i i) (nv S)) := Lib.hid (by
                have e := fill_full S 0
                rw [HS.out.1] at e
                have h := HBx.out
                rw [e] at h
                exact RdT.of_blk h (by rw [nv_len, HS.out.1]) (by rw [nv_len, HS.out.1]; exact Nat.le_refl _) (by unfold maxLen; omega))
              have y0 := cell_up x0 HWx.out
              have y1 := cell_up x1 HWx.out
              have y2 := cell_up x2 HWx.out
              have hE1 := fun W hw => implEncode_any F hF h12 K (.slice (some ⟨p1, o1, none⟩) i c1) D1 W hw HD.out.1 (by rw [HLn.out.1]; exact hm0) (by rw [HLn.out.1]; omega) (by omega) (by omega) (by omega)
              have hE2 := fun W hw => implEncode_any F hF h12 K (.slice (some ⟨p2, o2, none⟩) i c2) D2 W hw HD.out.2 (by rw [HLn.out.2]; exact hm0) (by rw [HLn.out.2]; omega) (by omega) (by omega) (by omega)
              have hE3 := fun W hw => implEncode_any F hF h12 K (.slice (some ⟨w3.heap.size, 0, none⟩) i i) S W hw HS.out.2.1 (by rw [HS.out.1]; exact hm0) (by rw [HS.out.1]; omega) (by omega) (by omega) (by omega)
              have hn1 : (Gf.enc F K D1).length = i + K := by rw [Gf.enc_len, HLn.out.1]
              have hn2 : (Gf.enc F K D2).length = i + K := by rw [Gf.enc_len, HLn.out.2]
              have hn3 : (Gf.enc F K S).length = i + K := by rw [Gf.enc_len, HS.out.1]
              have hq1 := Gf.enc_lt hF K HD.out.1
              have hq2 := Gf.enc_lt hF K HD.out.2
              have hxe := HS.out.2.2.2
              generalize Gf.enc F K D1 = E1 at *
              generalize Gf.enc F K D2 = E2 at *
              generalize Gf.enc F K S = E3 at *
              have HE := Lib.hid (And.intro hE1 (And.intro hE2 hE3)); clear hE1 hE2 hE3
              have HN := Lib.hid (And.intro hn1 (And.intro hn2 hn3)); clear hn1 hn2 hn3
              have HQ := Lib.hid (And.intro hq1 (And.intro hq2 hxe)); clear hq1 hq2 hxe
              clear x0 x1 x2 HC1 HC2
              go_wp2_with fail
              refine (HE.out.1 _ (HV1'.out.up HWx.out).rd).mono ?_
              rintro e w4 ⟨r1, rfl, hr1, hb4⟩
              have HR1 := Lib.hid hr1; clear hr1
              have z0 := cell_up y0 hb4
              have z1 := cell_up y1 hb4
              have z2 := cell_up y2 hb4
              have HB4 := Lib.hid hb4; clear hb4 y0 y1 y2
              go_wp2_with fail
              refine (HE.out.2.1 _ (HV2.out.up (bup HWx.out HB4.out)).rd).mono ?_
              rintro e w5 ⟨r2, rfl, hr2, hb5⟩
              have HR2 := Lib.hid hr2; clear hr2
              have y0 := cell_up z0 hb5
              have y1 := cell_up z1 hb5
              have y2 := cell_up z2 hb5
              have HB5 := Lib.hid hb5; clear hb5 z0 z1 z2
              go_wp2_with fail
              refine (HE.out.2.2 _ ((HSv.out.up HB4.out).up HB5.out).rd).mono ?_
              rintro e w6 ⟨r3, rfl, hr3, hb6⟩
              have HB6 := Lib.hid hb6; clear hb6 y0 y1 y2
              obtain ⟨T, hT⟩ : ∃ T, T = i + K := ⟨_, rfl⟩
              have hT0 : 0 < T := by omega
              have hT4 : T ≤ 4096 := by omega
              have hN1 : E1.length = T := by rw [hT]; exact HN.out.1
              have hN2 : E2.length = T := by rw [hT]; exact HN.out.2.1
              have hN3 : E3.length = T := by rw [hT]; exact HN.out.2.2
              obtain ⟨d1, g1, k1, rfl, l1, l2, HX1⟩ := rdt_at ((HR1.out.up HB5.out).up HB6.out) hN1 hT0
              obtain ⟨d2, g2, k2, rfl, l3, l4, HX2⟩ := rdt_at (HR2.out.up HB6.out) hN2 hT0
              obtain ⟨d3, g3, k3, rfl, l5, l6, HX3⟩ := rdt_at hr3 hN3 hT0
              have HNN := Lib.hid (And.intro hN1 hN2); clear hN1 hN2 hN3 hr3 hT
              have HBz := Lib.hid (bup HB3.out (bup HWx.out (bup HB4.out (bup HB5.out HB6.out))))
              go_wp2_with fail
              go_loopw [25] (fun iv wr => ∃ (j : Nat), j ≤ T ∧ iv = .int .i64 j ∧ Hid (Below w6.heap.size w6 wr)) (fun iv _ => T - (intOf iv).toNat)
              case atStart => exact ⟨0, Nat.zero_le _, rfl, Lib.hid (brf w6)⟩
              case round =>
                rename World => wq
                obtain ⟨j, hj, rfl, HWq⟩ := hrel
                by_cases hjt : j < T
                · have u1 := cell_up (HX1.out j hjt) HWq.out
                  have u2 := cell_up (HX2.out j hjt) HWq.out
                  have u3 := cell_up (HX3.out j hjt) HWq.out
                  have h8a : E1.getD j 0 < F.s := by rw [getD_lt _ _ _ (by rw [HNN.out.1]; exact hjt)]; exact HQ.out.1 _ (List.getElem_mem _)
                  have h8b : E2.getD j 0 < F.s := by rw [getD_lt _ _ _ (by rw [HNN.out.2]; exact hjt)]; exact HQ.out.2.1 _ (List.getElem_mem _)
                  have hz : E3.getD j 0 = E1.getD j 0 ^^^ E2.getD j 0 := by rw [HQ.out.2.2]; exact Gf.xo_at E1 E2 j (by rw [HNN.out.1]; exact hjt)
                  rw [hz] at u3
                  clear hz
                  generalize E1.getD j 0 = x at *
                  generalize E2.getD j 0 = y at *
                  have e2 := i64_xor x y (by omega) (by omega)
                  generalize x ^^^ y = z at *
                  go_wp2
                  go_quiet (fail)
                  have HWq2 := Lib.hid (bdn HWq.out nq)
                  clear u1 u2 u3 e2
                  go_wp2
                  go_roundw
                  case rel => exact ⟨j + 1, by omega, by go_num, HWq2⟩
                  case measure => simp [intOf]; omega
                · go_wp2
                  go_ret
                  exact ⟨rfl, bup HBz.out HWq.out⟩
        · have hdt : decide (0 < m) = false := by simpa using hm0
          rw [hdt]
          clear hdt
          go_wp2
          go_ret
          exact ⟨rfl, HB3.out⟩
      · have hmn1 : (xs.length : Int) ≤ (ys.length : Int) := by omega
        have hmn2 : ¬ (ys.length : Int) < (xs.length : Int) := by omega
        have hmn3 : xs.length ≤ cb := by omega
        have hR1 := HA.out.take_ (k := xs.length) (by omega)
        have hR2 := HB.out.take_ (k := xs.length) (by omega)
        rw [← vals_take] at hR1 hR2
        have hD1 := rwData_lt (fld n) (xs.take xs.length) ec
        have hD2 := rwData_lt (fld n) (ys.take xs.length) ec
        have hl1 := rwData_len' (fld n) xs ec xs.length (by omega)
        have hl2 := rwData_len' (fld n) ys ec xs.length (by omega)
        have hW1 := fun l W hl => rsWords_any (fld n) hs3 h12 l (xs.take xs.length) ec W hl hec
        have hW2 := fun l W hl => rsWords_any (fld n) hs3 h12 l (ys.take xs.length) ec W hl hec
        obtain ⟨m, hm⟩ : ∃ m, m = min (rwMost (fld n) - rwMany (fld n) ec) xs.length := ⟨_, rfl⟩
        rw [← hm] at hl1 hl2
        have hm4 : m ≤ 255 := by omega
        clear hm
        generalize rwData (fld n) (xs.take xs.length) ec = D1 at *
        generalize rwData (fld n) (ys.take xs.length) ec = D2 at *
        generalize rwMost (fld n) = M at *
        generalize rwMany (fld n) ec = K at *
        have HR := Lib.hid (And.intro hR1 hR2); clear hR1 hR2
        have HD := Lib.hid (And.intro hD1 hD2); clear hD1 hD2
        have HLn := Lib.hid (And.intro hl1 hl2); clear hl1 hl2
        have HWd1 := Lib.hid hW1; clear hW1
        have HWd2 := Lib.hid hW2; clear hW2
        go_enter Try.func8, Try.ntmps8
        go_wp2_with fail
        refine (field_any n _ hn).mono ?_
        rintro e w1 ⟨rfl, hbf⟩
        unfold fdV
        generalize fld n = F at *
        have HB1 := Lib.hid hbf; clear hbf
        obtain ⟨wb, hwb⟩ : ∃ wb, wb = w1.alloc (.cells #[.int .i64 F.p, .int .i64 F.s, .int .i64 F.b] 26) := ⟨_, rfl⟩
        have HBk : Hid (Blk wb w1.heap.size 26 #[.int .i64 F.p, .int .i64 F.s, .int .i64 F.b]) := Lib.hid (by rw [hwb]; exact Blk.fresh _ _ _)
        have HBb : Hid (Below w.heap.size w wb) := Lib.hid (by rw [hwb]; exact bal HB1.out _)
        have HWB := Lib.hid hwb.symm; clear hwb e1 e2
        obtain ⟨x0, x1, x2⟩ := HBk.out.three
        go_wp2_with fail
        rw [HWB.out]
        refine Can.wp_region_can (fun w' => w'.cell? ⟨w1.heap.size, 0, none⟩ = some (.int .i64 F.p) ∧ w'.cell? ⟨w1.heap.size, 1, none⟩ = some (.int .i64 F.s) ∧ w'.cell? ⟨w1.heap.size, 2, none⟩ = some (.int .i64 F.b) ∧ Below w.heap.size w w') 999 [0, 1, 2, 3, 4, 5, 6, 7, 8, 9, 10, 11, 12] (by kernel_rfl) (by kernel_rfl) (fun _ _ d _ _ h => by cases d <;> exact h) ⟨x0, x1, x2, bdr HBb.out⟩ (fun hHeld => ?_)
        repeat (refine Can.can_pure (v := ?_) rfl rfl (Or.inl ⟨by rfl, ?_⟩) ?_; rotate_left; (focus ((intro w hSw); (try dsimp only at hSw); go_simp; (try with_reducible rfl))); (try simp only [Act.put, List.getElem_toArray, List.getElem_cons_succ, List.getElem_cons_zero, List.setIfInBounds_toArray, List.set_cons_zero, List.set_cons_succ]))
        refine Can.can_eff rfl rfl (by rfl) (fun K hK => ?_)
        go_simp
        refine (HWd1.out _ _ (HR.out.1.up hHeld.2.2.2)).mono ?_
        rintro e w2 ⟨v1, rfl, hv1, hb2'⟩
        refine hK.out _ _ ⟨cell_up hHeld.1 hb2', cell_up hHeld.2.1 hb2', cell_up hHeld.2.2.1 hb2', bup hHeld.2.2.2 hb2'⟩ (fun hHeld1 => ?_)
        clear hK K
        (try simp only [Act.put, List.getElem_toArray, List.getElem_cons_succ, List.getElem_cons_zero, List.setIfInBounds_toArray, List.set_cons_zero, List.set_cons_succ])
        repeat (refine Can.can_pure (v := ?_) rfl rfl (Or.inl ⟨by rfl, ?_⟩) ?_; rotate_left; (focus ((intro w hSw); (try dsimp only at hSw); go_simp; (try with_reducible rfl))); (try simp only [Act.put, List.getElem_toArray, List.getElem_cons_succ, List.getElem_cons_zero, List.setIfInBounds_toArray, List.set_cons_zero, List.set_cons_succ]))
        refine Can.can_done ?_
        have HV1 := Lib.hid hv1; clear hv1
        obtain ⟨x0, x1, x2, hB2⟩ := hHeld1
        have HB2 := Lib.hid hB2; clear hB2 hHeld hb2'
        go_wp2_with fail
        refine Can.wp_region_can (fun w' => w'.cell? ⟨w1.heap.size, 0, none⟩ = some (.int .i64 F.p) ∧ w'.cell? ⟨w1.heap.size, 1, none⟩ = some (.int .i64 F.s) ∧ w'.cell? ⟨w1.heap.size, 2, none⟩ = some (.int .i64 F.b) ∧ Below w2.heap.size w2 w') 999 [0, 1, 2, 3, 4, 5, 6, 7, 8, 9, 10, 11, 12] (by kernel_rfl) (by kernel_rfl) (fun _ _ d _ _ h => by cases d <;> exact h) ⟨x0, x1, x2, bdr (brf _)⟩ (fun hHeld => ?_)
        repeat (refine Can.can_pure (v := ?_) rfl rfl (Or.inl ⟨by rfl, ?_⟩) ?_; rotate_left; (focus ((intro w hSw); (try dsimp only at hSw); go_simp; (try with_reducible rfl))); (try simp only [Act.put, List.getElem_toArray, List.getElem_cons_succ, List.getElem_cons_zero, List.setIfInBounds_toArray, List.set_cons_zero, List.set_cons_succ]))
        refine Can.can_eff rfl rfl (by rfl) (fun K hK => ?_)
        go_simp
        refine (HWd2.out _ _ (HR.out.2.up (bup HB2.out hHeld.2.2.2))).mono ?_
        rintro e w3 ⟨v2, rfl, hv2, hb3'⟩
        refine hK.out _ _ ⟨cell_up hHeld.1 hb3', cell_up hHeld.2.1 hb3', cell_up hHeld.2.2.1 hb3', bup hHeld.2.2.2 hb3'⟩ (fun hHeld1 => ?_)
        clear hK K
        (try simp only [Act.put, List.getElem_toArray, List.getElem_cons_succ, List.getElem_cons_zero, List.setIfInBounds_toArray, List.set_cons_zero, List.set_cons_succ])
        repeat (refine Can.can_pure (v := ?_) rfl rfl (Or.inl ⟨by rfl, ?_⟩) ?_; rotate_left; (focus ((intro w hSw); (try dsimp only at hSw); go_simp; (try with_reducible rfl))); (try simp only [Act.put, List.getElem_toArray, List.getElem_cons_succ, List.getElem_cons_zero, List.setIfInBounds_toArray, List.set_cons_zero, List.set_cons_succ]))
        refine Can.can_done ?_
        have HV2 := Lib.hid hv2; clear hv2 x0 x1 x2
        obtain ⟨x0, x1, x2, hB3⟩ := hHeld1
        have HV1' := Lib.hid (HV1.out.up hB3); clear HV1
        have HB3 := Lib.hid (bup HB2.out hB3); clear hB3 hHeld hb3' HB2
        rw [HLn.out.1, HLn.out.2]
        by_cases hm0 : 0 < m
        · have hdt : decide (0 < m) = true := by simpa using hm0
          rw [hdt]
          clear hdt
          obtain ⟨p1, o1, c1, rfl, j1, j2, HC1⟩ := rdt_at HV1'.out HLn.out.1 hm0
          obtain ⟨p2, o2, c2, rfl, j3, j4, HC2⟩ := rdt_at HV2.out HLn.out.2 hm0
          have hSl : (Gf.xo D1 D2).length = m := by rw [Gf.xo_len]; exact HLn.out.1
          have hSt := Gf.xo_lt D1 D2 HD.out.1 HD.out.2
          have hSa := fun i (hi : i < m) => Gf.xo_at D1 D2 i (by rw [HLn.out.1]; exact hi)
          have hEx := Gf.enc_xor (F := F) hF (n := K) (p := D1) (q := D2) (by rw [HLn.out.1, HLn.out.2]) HD.out.1 HD.out.2
          obtain ⟨S, hS⟩ : ∃ S, S = Gf.xo D1 D2 := ⟨_, rfl⟩
          rw [← hS] at hSl hSt hSa hEx
          have HS := Lib.hid (And.intro hSl (And.intro hSt (And.intro hSa hEx))); clear hSl hSt hSa hEx hS
          have hmk := fun W => mk_ints m W (by omega)
          go_wp2_with fail
          clear hmk
          go_loopw [18] (fun iv wr => ∃ (i : Nat), i ≤ m ∧ iv = .int .i64 i ∧ Hid (Blk wr w3.heap.size 3 (nv (fillA S 0 m i)).toArray) ∧ Hid (Below w3.heap.size w3 wr)) (fun iv _ => m - (intOf iv).toNat)
          case atStart => exact ⟨0, Nat.zero_le _, rfl, Lib.hid (by rw [fill_zero]; exact Blk.fresh w3 _ _), Lib.hid (bal (brf w3) _)⟩
          case round =>
            obtain ⟨i, hi, rfl, HBx, HWx⟩ := hrel
            by_cases hlt : i < m
            · have hPi : i < S.length := by rw [HS.out.1]; exact hlt
              have hfl := fill_len S 0 m i (by omega) (by rw [HS.out.1]; exact Nat.le_refl _)
              have hset := fill_set S 0 m i hPi (by rw [HS.out.1]; exact Nat.le_refl _)
              have hv := HS.out.2.2.1 i hlt
              rw [getD_lt S _ _ hPi] at hv
              rw [hv] at hset
              have cA := cell_up (HC1.out i hlt) HWx.out
              have cB := cell_up (HC2.out i hlt) HWx.out
              have ha8 : D1.getD i 0 < F.s := by rw [getD_lt _ _ _ (by rw [HLn.out.1]; exact hlt)]; exact HD.out.1 _ (List.getElem_mem _)
              have hb8 : D2.getD i 0 < F.s := by rw [getD_lt _ _ _ (by rw [HLn.out.2]; exact hlt)]; exact HD.out.2 _ (List.getElem_mem _)
              have cO : wr.cell? ⟨w3.heap.size, i, none⟩ = some (.int .i64 (((fillA S 0 m i)[i]'(by omega) : Nat) : Int)) := by rw [HBx.out.cell]; exact nv_cell _ _ (by omega)
              have fO : wr.frozen? ⟨w3.heap.size, i, none⟩ = false := HBx.out.frozen _
              generalize (fillA S 0 m i)[i]'(by omega) = o at *
              generalize D1.getD i 0 = x at *
              generalize D2.getD i 0 = y at *
              have e2 := i64_xor x y (by omega) (by omega)
              have HB2 := Lib.hid (HBx.out.drew.put i (.int .i64 ((x ^^^ y : Nat) : Int)))
              have HW2 := Lib.hid (HWx.out.drew.setCell (p := ⟨w3.heap.size, i, none⟩) (Nat.le_refl _) (.int .i64 ((x ^^^ y : Nat) : Int)))
              rw [nv_set, hset] at HB2
              clear hset hv hPi hfl HBx HWx
              go_wp2
              refine Can.wp_region_can (fun w' => w'.cell? ⟨p1, o1 + i, none⟩ = some (.int .i64 ((x : Nat) : Int)) ∧ w'.cell? ⟨p2, o2 + i, none⟩ = some (.int .i64 ((y : Nat) : Int)) ∧ w'.cell? ⟨w3.heap.size, i, none⟩ = some (.int .i64 ((o : Nat) : Int)) ∧ w'.frozen? ⟨w3.heap.size, i, none⟩ = false) 12 [0, 1, 2, 3, 4, 5, 6, 7, 8, 9, 10, 11, 12] (by kernel_rfl) (by kernel_rfl) (fun _ _ d _ _ h => by cases d <;> exact h) ⟨cA, cB, cO, fO⟩ (fun hHeld => ?_)
              repeat (refine Can.can_pure (v := ?_) rfl rfl (Or.inl ⟨by rfl, ?_⟩) ?_; rotate_left; (focus ((intro w hSw); (try dsimp only at hSw); go_simp; (try with_reducible rfl))); (try simp only [Act.put, List.getElem_toArray, List.getElem_cons_succ, List.getElem_cons_zero, List.setIfInBounds_toArray, List.set_cons_zero, List.set_cons_succ]))
              have f1 := hHeld.2.2.2
              have c3 := hHeld.2.2.1
              refine Can.can_tail rfl rfl (by rfl) (fun K hK => ?_)
              go_simp
              refine hK.out _ _ ?_
              clear hK K
              clear hHeld f1 c3 cA cB cO fO
              go_wp2
              go_roundw
              case rel => exact ⟨i + 1, by omega, by go_num, HB2, HW2⟩
              case measure => simp [intOf]; omega
            · obtain rfl : i = m := by omega
              have HSv : Hid (RdT wr 3 (.slice (some ⟨w3.heap.size, 0, none⟩) i i) (nv S)) := Lib.hid (by
                have e := fill_full S 0
                rw [HS.out.1] at e
                have h := HBx.out
                rw [e] at h
                exact RdT.of_blk h (by rw [nv_len, HS.out.1]) (by rw [nv_len, HS.out.1]; exact Nat.le_refl _) (by unfold maxLen; omega))
              have y0 := cell_up x0 HWx.out
              have y1 := cell_up x1 HWx.out
              have y2 := cell_up x2 HWx.out
              have hE1 := fun W hw => implEncode_any F hF h12 K (.slice (some ⟨p1, o1, none⟩) i c1) D1 W hw HD.out.1 (by rw [HLn.out.1]; exact hm0) (by rw [HLn.out.1]; omega) (by omega) (by omega) (by omega)
              have hE2 := fun W hw => implEncode_any F hF h12 K (.slice (some ⟨p2, o2, none⟩) i c2) D2 W hw HD.out.2 (by rw [HLn.out.2]; exact hm0) (by rw [HLn.out.2]; omega) (by omega) (by omega) (by omega)
              have hE3 := fun W hw => implEncode_any F hF h12 K (.slice (some ⟨w3.heap.size, 0, none⟩) i i) S W hw HS.out.2.1 (by rw [HS.out.1]; exact hm0) (by rw [HS.out.1]; omega) (by omega) (by omega) (by omega)
              have hn1 : (Gf.enc F K D1).length = i + K := by rw [Gf.enc_len, HLn.out.1]
              have hn2 : (Gf.enc F K D2).length = i + K := by rw [Gf.enc_len, HLn.out.2]
              have hn3 : (Gf.enc F K S).length = i + K := by rw [Gf.enc_len, HS.out.1]
              have hq1 := Gf.enc_lt hF K HD.out.1
              have hq2 := Gf.enc_lt hF K HD.out.2
              have hxe := HS.out.2.2.2
              generalize Gf.enc F K D1 = E1 at *
              generalize Gf.enc F K D2 = E2 at *
              generalize Gf.enc F K S = E3 at *
              have HE := Lib.hid (And.intro hE1 (And.intro hE2 hE3)); clear hE1 hE2 hE3
              have HN := Lib.hid (And.intro hn1 (And.intro hn2 hn3)); clear hn1 hn2 hn3
              have HQ := Lib.hid (And.intro hq1 (And.intro hq2 hxe)); clear hq1 hq2 hxe
              clear x0 x1 x2 HC1 HC2
              go_wp2_with fail
              refine (HE.out.1 _ (HV1'.out.up HWx.out).rd).mono ?_
              rintro e w4 ⟨r1, rfl, hr1, hb4⟩
              have HR1 := Lib.hid hr1; clear hr1
              have z0 := cell_up y0 hb4
              have z1 := cell_up y1 hb4
              have z2 := cell_up y2 hb4
              have HB4 := Lib.hid hb4; clear hb4 y0 y1 y2
              go_wp2_with fail
              refine (HE.out.2.1 _ (HV2.out.up (bup HWx.out HB4.out)).rd).mono ?_
              rintro e w5 ⟨r2, rfl, hr2, hb5⟩
              have HR2 := Lib.hid hr2; clear hr2
              have y0 := cell_up z0 hb5
              have y1 := cell_up z1 hb5
              have y2 := cell_up z2 hb5
              have HB5 := Lib.hid hb5; clear hb5 z0 z1 z2
              go_wp2_with fail
              refine (HE.out.2.2 _ ((HSv.out.up HB4.out).up HB5.out).rd).mono ?_
              rintro e w6 ⟨r3, rfl, hr3, hb6⟩
              have HB6 := Lib.hid hb6; clear hb6 y0 y1 y2
              obtain ⟨T, hT⟩ : ∃ T, T = i + K := ⟨_, rfl⟩
              have hT0 : 0 < T := by omega
              have hT4 : T ≤ 4096 := by omega
              have hN1 : E1.length = T := by rw [hT]; exact HN.out.1
              have hN2 : E2.length = T := by rw [hT]; exact HN.out.2.1
              have hN3 : E3.length = T := by rw [hT]; exact HN.out.2.2
              obtain ⟨d1, g1, k1, rfl, l1, l2, HX1⟩ := rdt_at ((HR1.out.up HB5.out).up HB6.out) hN1 hT0
              obtain ⟨d2, g2, k2, rfl, l3, l4, HX2⟩ := rdt_at (HR2.out.up HB6.out) hN2 hT0
              obtain ⟨d3, g3, k3, rfl, l5, l6, HX3⟩ := rdt_at hr3 hN3 hT0
              have HNN := Lib.hid (And.intro hN1 hN2); clear hN1 hN2 hN3 hr3 hT
              have HBz := Lib.hid (bup HB3.out (bup HWx.out (bup HB4.out (bup HB5.out HB6.out))))
              go_wp2_with fail
              go_loopw [25] (fun iv wr => ∃ (j : Nat), j ≤ T ∧ iv = .int .i64 j ∧ Hid (Below w6.heap.size w6 wr)) (fun iv _ => T - (intOf iv).toNat)
              case atStart => exact ⟨0, Nat.zero_le _, rfl, Lib.hid (brf w6)⟩
              case round =>
                rename World => wq
                obtain ⟨j, hj, rfl, HWq⟩ := hrel
                by_cases hjt : j < T
                · have u1 := cell_up (HX1.out j hjt) HWq.out
                  have u2 := cell_up (HX2.out j hjt) HWq.out
                  have u3 := cell_up (HX3.out j hjt) HWq.out
                  have h8a : E1.getD j 0 < F.s := by rw [getD_lt _ _ _ (by rw [HNN.out.1]; exact hjt)]; exact HQ.out.1 _ (List.getElem_mem _)
                  have h8b : E2.getD j 0 < F.s := by rw [getD_lt _ _ _ (by rw [HNN.out.2]; exact hjt)]; exact HQ.out.2.1 _ (List.getElem_mem _)
                  have hz : E3.getD j 0 = E1.getD j 0 ^^^ E2.getD j 0 := by rw [HQ.out.2.2]; exact Gf.xo_at E1 E2 j (by rw [HNN.out.1]; exact hjt)
                  rw [hz] at u3
                  clear hz
                  generalize E1.getD j 0 = x at *
                  generalize E2.getD j 0 = y at *
                  have e2 := i64_xor x y (by omega) (by omega)
                  generalize x ^^^ y = z at *
                  go_wp2
                  go_quiet (fail)
                  have HWq2 := Lib.hid (bdn HWq.out nq)
                  clear u1 u2 u3 e2
                  go_wp2
                  go_roundw
                  case rel => exact ⟨j + 1, by omega, by go_num, HWq2⟩
                  case measure => simp [intOf]; omega
                · go_wp2
                  go_ret
                  exact ⟨rfl, bup HBz.out HWq.out⟩
        · have hdt : decide (0 < m) = false := by simpa using hm0
          rw [hdt]
          clear hdt
          go_wp2
          go_ret
          exact ⟨rfl, HB3.out⟩
end Go.Proofs.Ytneojmkccgjcgaa
