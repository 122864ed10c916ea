/-
  WALKS: impl.BlackRow; THE LAW of a row of two grays.
-/
import Derived.Test.YtimfaplnhlnjlaaPn6
import Derived.Test.YtimfaplnhlnjlaaPn2
namespace Go.Proofs.Ytimfaplnhlnjlaa
open Go.RowKit

set_option maxRecDepth 100000 in
theorem blackRowI_any (v : Value) (n d l : Nat) (L : List Nat) (f : Nat → Bool) (w : World) (hv : RdT w 5 v (b8 L)) (hL : L.length = n) (hn : 3 ≤ n) (hn2 : n ≤ 400) (hT : Two L f d l) (hdl : d + 24 ≤ l) (hl : l < 256)
    (hd1 : ∃ j, j < n ∧ f j = true) (hl1 : ∃ j, j < n ∧ f j = false) :
    Calls Try.prog 17 #[.int .i64 n, .int .i64 1, v, .int .i64 0] w fun e w' => ∃ v', e = .returned (.tuple #[v', .bool true]) ∧ RdT w' 4 v' (bv (bitsL n (fun i => f i && (decide (0 < i) && decide (i + 1 < n))))) ∧ Below w.heap.size w w' := by
  have HV := Lib.hid hv; have HT := Lib.hid hT; have HD1 := Lib.hid hd1; have HL1 := Lib.hid hl1; have HL := Lib.hid hL
  clear hv hT hd1 hl1 hL
  go_enter Try.func17, Try.ntmps17
  go_wp2_with fail
  refine (source_any n 1 v L w HV.out (by rw [HL.out, Nat.mul_one]) (by omega) (by omega) (by rw [HL.out]; omega)).mono ?_
  rintro e w1 ⟨p, v1, rfl, hp, hv1, hb1⟩
  obtain ⟨A, c, rfl, -, -, -⟩ := id hv1
  rw [b8_len] at hp hv1
  have hpl := hp.lt
  have HP1 := Lib.hid hp; have HV1 := Lib.hid hv1; have HB1 := Lib.hid hb1
  clear hp hv1 hb1 HV
  go_wp2_with fail
  refine (newBin_any p w1).mono ?_
  rintro e w2 ⟨pb, ga, kb, rfl, hbin, hkb, hk1, hk2, hb2⟩
  have HP2 := Lib.hid (HP1.out.up hb2); have HV2 := Lib.hid (HV1.out.up hb2); have HB2 := Lib.hid (bup HB1.out hb2)
  have HBIN := Lib.hid hbin; have HKB := Lib.hid hkb
  have hsz := HB1.out.size
  clear hbin hkb hb2 HP1 HV1 HB1
  unfold binV
  go_wp2_with fail
  refine (blackRow_any pb ga kb p A c n d l L f w2 HBIN.out HKB.out hk1 HP2.out (by omega) HV2.out HL.out hn hn2 HT.out hdl hl HD1.out HL1.out).mono ?_
  rintro e w3 ⟨q, g, rfl, hx, hb3⟩
  have HX := Lib.hid hx
  have HB3 := Lib.hid (HB2.out.trans (hb3.mono (by omega)))
  clear hx hb3 HP2 HV2 HBIN HKB HB2
  go_wp2_with fail
  refine (bools_any q g n _ w3 HX.out (by omega)).mono ?_
  rintro e w4 ⟨v4, rfl, hv4, hb4⟩
  have HV4 := Lib.hid hv4
  have HB4 := Lib.hid (bup HB3.out hb4)
  clear hv4 hb4 HX HB3
  go_wp2
  go_returns
  exact ⟨_, rfl, HV4.out, HB4.out⟩

theorem rows_one {w : World} {b : Nat} (h : w.heap.size = b) {u : Value} {R : List Bool} (hu : RdT w 4 u (bv R)) : RowsT (w.alloc (.cells #[u] 38)) (.slice (some ⟨b, 0, none⟩) 1 1) [R] :=
  ⟨[u], RdT.one h _ u, rfl, fun i hi => by
    have : i = 0 := by simpa using hi
    subst this
    exact hu.up (bal (brf w) _)⟩
theorem two_draw (R : List Bool) (n d l : Nat) (_h : R.length = n) : Two (drawL [R] n 1 d l) (fun j => R.getD j false) d l := fun j hj => by
  rw [drawL_len, Nat.mul_one] at hj
  have := drawL_at [R] n 1 d l j 0 hj (by omega)
  rw [Nat.zero_mul, Nat.zero_add] at this
  exact this
set_option maxRecDepth 100000 in
set_option maxHeartbeats 4000000 in
theorem row_walk (v : Value) (l : List Bool) (m dN lN : Nat) (w : World) (hv : Rd w w.heap.size v (bv l)) (hm : m < 256) (hd : dN < 256) (hl : lN < 256) :
    Calls Try.prog 5 #[v, .int .u8 m, .int .u8 dN, .int .u8 lN] w fun e w' => e = .returned (.bool true) ∧ Below w.heap.size w w' := by
  obtain ⟨A, cap, rfl, h1, h2, h3⟩ := id hv
  have HV := Lib.hid hv; clear hv h3
  rw [bv_len] at *
  unfold maxLen at h2
  by_cases hbig : (2147483647 : Int) < (l.length : Int)
  · go_enter Try.func5, Try.ntmps5
    go_wp2
    go_ret
    exact ⟨rfl, brf w⟩
  obtain ⟨n, hn⟩ : ∃ n, n = 3 + m % 198 := ⟨_, rfl⟩
  have en : 3 + (m : Int) % 198 = (n : Int) := by omega
  have hn3 : 3 ≤ n := by omega
  have hn4 : n ≤ 200 := by omega
  clear hn
  go_enter Try.func5, Try.ntmps5
  go_wp2_with fail
  refine (biFits_any n _ l w HV.out (by omega)).mono ?_
  rintro e w1 ⟨v1, rfl, hv1, hb1⟩
  have hrl := biRow_len n l 0
  generalize biRow n l 0 = R at *
  obtain ⟨A1, c1, rfl, -, -, -⟩ := id hv1
  rw [bv_len, hrl] at hv1 ⊢
  have HV1 := Lib.hid hv1
  have HB1 := Lib.hid hb1
  have HRL := Lib.hid hrl
  clear hv1 hb1 hrl HV hbig en
  go_wp2_with fail
  refine (both_any _ R 0 n w1 HV1.out (by rw [HRL.out]; exact Nat.le_refl _) (by rw [HRL.out]; omega) (by omega)).mono ?_
  rintro e w2 ⟨⟨r, rfl, hr⟩, hb2⟩
  have HR := Lib.hid hr
  have HV2 := Lib.hid (HV1.out.up hb2)
  have HB2 := Lib.hid (bup HB1.out hb2)
  clear hr hb2 HV1 HB1
  cases r
  · go_wp2
    go_ret
    exact ⟨rfl, HB2.out⟩
  have hex := HR.out.1 rfl
  have HEX := Lib.hid hex
  clear hex HR
  go_wp2_with fail
  refine (pxTwo_any dN lN w2 hd hl).mono ?_
  rintro e w3 ⟨⟨d, li, rfl, hdl, hli⟩, hb3⟩
  have HV3 := Lib.hid (HV2.out.up hb3)
  have HB3 := Lib.hid (bup HB2.out hb3)
  clear hb3 HV2 HB2
  go_wp2_with fail
  have hRw : RowsT (w3.alloc (.cells #[.slice A1 n c1] 38)) (.slice (some ⟨w3.heap.size, 0, none⟩) 1 1) [R] := rows_one rfl HV3.out
  have hba := bal (brf w3) (.cells #[.slice A1 n c1] 38)
  have HV4 := Lib.hid (HV3.out.up hba)
  have HB4 := Lib.hid (bup HB3.out hba)
  clear hba HV3 HB3
  generalize (w3.alloc (.cells #[.slice A1 n c1] 38)) = w4 at *
  have HRw := Lib.hid hRw; clear hRw
  refine (draw_any _ [R] n 1 d li w4 HRw.out rfl (fun y hy => by
    have hy0 : y = 0 := by omega
    subst hy0
    exact HRL.out) (by omega) (by omega) (by omega) (by omega)).mono ?_
  rintro e w5 ⟨v5, rfl, hv5, hb5⟩
  have hT := two_draw R n d li HRL.out
  have hLl := drawL_len [R] n 1 d li
  rw [Nat.mul_one] at hLl
  generalize drawL [R] n 1 d li = G at *
  have HT := Lib.hid hT; have HGL := Lib.hid hLl
  have HV5 := Lib.hid hv5
  have HR5 := Lib.hid (HV4.out.up hb5)
  have HB5 := Lib.hid (bup HB4.out hb5)
  clear hv5 hb5 HV4 HB4 HRw hT hLl
  go_wp2_with fail
  have hboth : (∃ j, j < n ∧ R.getD j false = true) ∧ (∃ j, j < n ∧ R.getD j false = false) := by
    obtain ⟨i, h0, hin, hne⟩ := HEX.out
    cases ha : R.getD 0 false
    · rw [ha] at hne
      exact ⟨⟨i, hin, by simpa using hne⟩, ⟨0, by omega, ha⟩⟩
    · rw [ha] at hne
      exact ⟨⟨0, by omega, ha⟩, ⟨i, hin, by simpa using hne⟩⟩
  refine (blackRowI_any v5 n d li G (fun j => R.getD j false) w5 HV5.out HGL.out hn3 (by omega) HT.out hdl hli hboth.1 hboth.2).mono ?_
  rintro e w6 ⟨v6, rfl, hv6, hb6⟩
  have hRl := HRL.out
  obtain ⟨b5, o5, c5, rfl, j1, j2, HC5⟩ := row_at hv6 (by rw [bitsL_len]; omega)
  obtain ⟨bR, oR, cR, hvR, j3, j4, HCR⟩ := row_at (HR5.out.up hb6) (by omega)
  rw [hRl] at hvR j3 HCR
  rw [bitsL_len] at j1 HC5 ⊢
  injection hvR with hvR _ hcc
  subst hvR hcc
  have hb5w := World.block_lt_of_cell? w6 _ (HC5.out 0 (by omega))
  have hbRw := World.block_lt_of_cell? w6 _ (HCR.out 0 (by omega))
  have HB6 := Lib.hid (bup HB5.out hb6)
  have wN : IntKind.i64.wrap ((n : Int) - 1) = (n : Int) - 1 := by rw [IntKind.wrap_i64]; omega
  have HO5 : Hid (∀ i, i < n → (bitsL n (fun i => R.getD i false && (decide (0 < i) && decide (i + 1 < n)))).getD i false = (R.getD i false && (decide (0 < i) && decide (i < n - 1)))) := Lib.hid (fun i hi => by
    have e1 := bitsL_at n (fun i => R.getD i false && (decide (0 < i) && decide (i + 1 < n))) i hi
    rw [List.getD, List.getElem?_eq_getElem (by rw [bitsL_len]; exact hi), Option.getD_some, e1]
    have : decide (i + 1 < n) = decide (i < n - 1) := by simp; omega
    rw [this])
  generalize bitsL n (fun i => R.getD i false && (decide (0 < i) && decide (i + 1 < n))) = O at *
  clear hv6 hb6 HV5 HR5 HB5 HT HGL HEX hboth
  go_wp2_with fail
  go_loopw [17] (fun iv wr => ∃ i : Nat, i ≤ n ∧ iv = .int .i64 i ∧ Hid (Below w6.heap.size w6 wr)) (fun iv _ => n - (intOf iv).toNat)
  case atStart => exact ⟨0, Nat.zero_le _, rfl, Lib.hid (brf w6)⟩
  case round =>
    obtain ⟨i, hi, rfl, HB⟩ := hrel
    by_cases hlt : i < n
    · have hO := (below_cells HB.out b5 (o5 + i) hb5w).trans (HC5.out i hlt)
      have cI := (below_cells HB.out bR (oR + i) hbRw).trans (HCR.out i hlt)
      have hOO := HO5.out i hlt
      rw [hOO] at hO
      clear hOO
      cases hq : R.getD i false
      · rw [hq] at cI hO
        clear hq
        have hcO : wr.cell? ⟨b5, o5 + i, none⟩ = some (.bool false) := by rw [hO]; congr 2
        have cO : wr.cell? ⟨b5, o5 + i, none⟩ = some (.bool false) := hcO
        clear hO hcO
        go_wp2_with fail
        refine Can.wp_region_can (fun w' => w'.cell? ⟨b5, o5 + i, none⟩ = some (.bool false) ∧ w'.cell? ⟨bR, oR + i, none⟩ = some (.bool false)) 999 [0, 1, 2, 3, 4, 5, 6, 7, 8, 9, 10, 11, 12, 13, 14, 15, 16, 17, 18] (by kernel_rfl) (by kernel_rfl) (fun _ _ d _ _ h => by cases d <;> exact h) ⟨cO, cI⟩ (fun hHeld => ?_)
        repeat (first | (refine Can.can_pure (v := ?_) rfl rfl (Or.inl ⟨by rfl, ?_⟩) ?_; rotate_left; (focus ((intro w hSw); (try dsimp only at hSw); go_simp; (try with_reducible rfl))); (try simp only [Act.put, List.getElem_toArray, List.getElem_cons_succ, List.getElem_cons_zero, List.setIfInBounds_toArray, List.set_cons_zero, List.set_cons_succ])) | (refine Can.can_pure (v := undef) rfl rfl (Or.inr ⟨by rfl, rfl⟩) ?_; (try simp only [Act.put, List.getElem_toArray, List.getElem_cons_succ, List.getElem_cons_zero, List.setIfInBounds_toArray, List.set_cons_zero, List.set_cons_succ])))
        refine Can.can_done ?_
        have HB7 := Lib.hid (HB.out.drew)
        clear hHeld cO cI HB
        generalize World.drew wr = wq at *
        go_wp2
        go_roundw
        case rel => exact ⟨i + 1, by omega, by go_num, HB7⟩
        case measure => simp [intOf]; omega
      · rw [hq] at cI hO
        clear hq
        by_cases h0 : 0 < i
        · have e0 : decide (0 < i) = true := decide_eq_true h0
          have h0i : (0 : Int) < (i : Int) := by omega
          by_cases h1 : i < n - 1
          · have e1 : decide (i < n - 1) = true := decide_eq_true h1
            have h1i : (i : Int) < (n : Int) - 1 := by omega
            rw [e0, e1] at hO
            clear e0 e1
            have hcO : wr.cell? ⟨b5, o5 + i, none⟩ = some (.bool true) := by rw [hO]; congr 2
            have cO : wr.cell? ⟨b5, o5 + i, none⟩ = some (.bool true) := hcO
            clear hO hcO
            go_wp2_with fail
            refine Can.wp_region_can (fun w' => w'.cell? ⟨b5, o5 + i, none⟩ = some (.bool true) ∧ w'.cell? ⟨bR, oR + i, none⟩ = some (.bool true)) 999 [0, 1, 2, 3, 4, 5, 6, 7, 8, 9, 10, 11, 12, 13, 14, 15, 16, 17, 18] (by kernel_rfl) (by kernel_rfl) (fun _ _ d _ _ h => by cases d <;> exact h) ⟨cO, cI⟩ (fun hHeld => ?_)
            repeat (first | (refine Can.can_pure (v := ?_) rfl rfl (Or.inl ⟨by rfl, ?_⟩) ?_; rotate_left; (focus ((intro w hSw); (try dsimp only at hSw); go_simp; (try with_reducible rfl))); (try simp only [Act.put, List.getElem_toArray, List.getElem_cons_succ, List.getElem_cons_zero, List.setIfInBounds_toArray, List.set_cons_zero, List.set_cons_succ])) | (refine Can.can_pure (v := undef) rfl rfl (Or.inr ⟨by rfl, rfl⟩) ?_; (try simp only [Act.put, List.getElem_toArray, List.getElem_cons_succ, List.getElem_cons_zero, List.setIfInBounds_toArray, List.set_cons_zero, List.set_cons_succ])))
            refine Can.can_done ?_
            have HB7 := Lib.hid (HB.out.drew)
            clear hHeld cO cI HB
            generalize World.drew wr = wq at *
            go_wp2
            go_roundw
            case rel => exact ⟨i + 1, by omega, by go_num, HB7⟩
            case measure => simp [intOf]; omega
          · have e1 : decide (i < n - 1) = false := decide_eq_false h1
            have h1i : ¬ (i : Int) < (n : Int) - 1 := by omega
            rw [e0, e1] at hO
            clear e0 e1
            have hcO : wr.cell? ⟨b5, o5 + i, none⟩ = some (.bool false) := by rw [hO]; congr 2
            have cO : wr.cell? ⟨b5, o5 + i, none⟩ = some (.bool false) := hcO
            clear hO hcO
            go_wp2_with fail
            refine Can.wp_region_can (fun w' => w'.cell? ⟨b5, o5 + i, none⟩ = some (.bool false) ∧ w'.cell? ⟨bR, oR + i, none⟩ = some (.bool true)) 999 [0, 1, 2, 3, 4, 5, 6, 7, 8, 9, 10, 11, 12, 13, 14, 15, 16, 17, 18] (by kernel_rfl) (by kernel_rfl) (fun _ _ d _ _ h => by cases d <;> exact h) ⟨cO, cI⟩ (fun hHeld => ?_)
            repeat (first | (refine Can.can_pure (v := ?_) rfl rfl (Or.inl ⟨by rfl, ?_⟩) ?_; rotate_left; (focus ((intro w hSw); (try dsimp only at hSw); go_simp; (try with_reducible rfl))); (try simp only [Act.put, List.getElem_toArray, List.getElem_cons_succ, List.getElem_cons_zero, List.setIfInBounds_toArray, List.set_cons_zero, List.set_cons_succ])) | (refine Can.can_pure (v := undef) rfl rfl (Or.inr ⟨by rfl, rfl⟩) ?_; (try simp only [Act.put, List.getElem_toArray, List.getElem_cons_succ, List.getElem_cons_zero, List.setIfInBounds_toArray, List.set_cons_zero, List.set_cons_succ])))
            refine Can.can_done ?_
            have HB7 := Lib.hid (HB.out.drew)
            clear hHeld cO cI HB
            generalize World.drew wr = wq at *
            go_wp2
            go_roundw
            case rel => exact ⟨i + 1, by omega, by go_num, HB7⟩
            case measure => simp [intOf]; omega
        · have e0 : decide (0 < i) = false := decide_eq_false h0
          rw [e0] at hO
          have h0i : ¬ (0 : Int) < (i : Int) := by omega
          clear e0
          have hcO : wr.cell? ⟨b5, o5 + i, none⟩ = some (.bool false) := by rw [hO]; congr 2
          have cO : wr.cell? ⟨b5, o5 + i, none⟩ = some (.bool false) := hcO
          clear hO hcO
          go_wp2_with fail
          refine Can.wp_region_can (fun w' => w'.cell? ⟨b5, o5 + i, none⟩ = some (.bool false) ∧ w'.cell? ⟨bR, oR + i, none⟩ = some (.bool true)) 999 [0, 1, 2, 3, 4, 5, 6, 7, 8, 9, 10, 11, 12, 13, 14, 15, 16, 17, 18] (by kernel_rfl) (by kernel_rfl) (fun _ _ d _ _ h => by cases d <;> exact h) ⟨cO, cI⟩ (fun hHeld => ?_)
          repeat (first | (refine Can.can_pure (v := ?_) rfl rfl (Or.inl ⟨by rfl, ?_⟩) ?_; rotate_left; (focus ((intro w hSw); (try dsimp only at hSw); go_simp; (try with_reducible rfl))); (try simp only [Act.put, List.getElem_toArray, List.getElem_cons_succ, List.getElem_cons_zero, List.setIfInBounds_toArray, List.set_cons_zero, List.set_cons_succ])) | (refine Can.can_pure (v := undef) rfl rfl (Or.inr ⟨by rfl, rfl⟩) ?_; (try simp only [Act.put, List.getElem_toArray, List.getElem_cons_succ, List.getElem_cons_zero, List.setIfInBounds_toArray, List.set_cons_zero, List.set_cons_succ])))
          refine Can.can_done ?_
          have HB7 := Lib.hid (HB.out.drew)
          clear hHeld cO cI HB
          generalize World.drew wr = wq at *
          go_wp2
          go_roundw
          case rel => exact ⟨i + 1, by omega, by go_num, HB7⟩
          case measure => simp [intOf]; omega
    · obtain rfl : i = n := by omega
      have HB7 := Lib.hid (bup HB6.out HB.out)
      go_wp2
      go_ret
      exact ⟨rfl, HB7.out⟩
end Go.Proofs.Ytimfaplnhlnjlaa
