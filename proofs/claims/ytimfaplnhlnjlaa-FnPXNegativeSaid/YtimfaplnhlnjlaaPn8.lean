/-
  WALKS: a picture of bits; whether in the middle of each row not all pixels are alike; a picture's grays inverted.
-/
import Derived.Test.YtimfaplnhlnjlaaPn7
namespace Go.Proofs.Ytimfaplnhlnjlaa
open Go.RowKit

theorem picture_any (v : Value) (l : List Bool) (a b : Nat) (w : World) (hv : Rd w w.heap.size v (bv l)) (ha : a < 256) (hb : b < 256) :
    Calls Try.prog 18 #[v, .int .u8 a, .int .u8 b] w fun e w' => ∃ v' W H, e = .returned v' ∧ 1 ≤ W ∧ W ≤ 100 ∧ 1 ≤ H ∧ H ≤ 100 ∧ RowsT w' v' (biRows W H l) ∧ Below w.heap.size w w' := by
  obtain ⟨W, hW⟩ : ∃ W, W = 1 + a % 100 := ⟨_, rfl⟩
  obtain ⟨H, hH⟩ : ∃ H, H = 1 + b % 100 := ⟨_, rfl⟩
  have eW : 1 + (a : Int) % 100 = (W : Int) := by omega
  have eH : 1 + (b : Int) % 100 = (H : Int) := by omega
  have bW : 1 ≤ W ∧ W ≤ 100 := by omega
  have bH : 1 ≤ H ∧ H ≤ 100 := by omega
  have HV := Lib.hid hv
  clear hW hH hv
  go_enter Try.func18, Try.ntmps18
  go_wp2_with fail
  refine (biRows_any W H v l w HV.out (by omega) (by omega)).mono ?_
  rintro e w1 ⟨v1, rfl, hr, hb1⟩
  have HR := Lib.hid hr; have HB := Lib.hid hb1
  clear hr hb1 HV
  go_wp2
  go_ret
  exact ⟨v1, W, H, rfl, bW.1, bW.2, bH.1, bH.2, HR.out, HB.out⟩

set_option maxRecDepth 100000 in
set_option maxHeartbeats 2000000 in
/-- laws.pxMiddle. -/
theorem middle_any (v : Value) (R : List (List Bool)) (W H : Nat) (w : World) (hv : RowsT w v R) (hH : R.length = H) (hr : ∀ y, y < H → (R.getD y []).length = W) (hH1 : 1 ≤ H) (hHm : H ≤ 100) (hW1 : 1 ≤ W) (hWm : W ≤ 100) :
    Calls Try.prog 19 #[v] w fun e w' => ∃ r, e = .returned (.bool r) ∧ (r = true → ∀ y, y < H → ∃ i, W / 5 < i ∧ i < 4 * W / 5 ∧ (R.getD y []).getD i false ≠ (R.getD y []).getD (W / 5) false) ∧ Below w.heap.size w w' := by
  obtain ⟨b, o, c, rfl, k1, k2, HC⟩ := hv.at_ (by omega)
  rw [hH] at k1 HC ⊢
  have HRL := Lib.hid hr
  obtain ⟨P, hP⟩ : ∃ P, P = W / 5 := ⟨_, rfl⟩
  obtain ⟨Q, hQ⟩ : ∃ Q, Q = 4 * W / 5 := ⟨_, rfl⟩
  have eP : (W : Int) / 5 = (P : Int) := by omega
  have eQ : 4 * (W : Int) / 5 = (Q : Int) := by omega
  have bQ : Q ≤ W := by omega
  have bP : P ≤ W := by omega
  rw [← hP, ← hQ]
  clear hr hP hQ hH hv
  go_enter Try.func19, Try.ntmps19
  go_wp2_with fail
  go_loopw [3] (fun iv wr => ∃ y : Nat, y ≤ H ∧ iv = .int .i64 y ∧ Hid (∀ k, k < y → ∃ i, P < i ∧ i < Q ∧ (R.getD k []).getD i false ≠ (R.getD k []).getD P false) ∧ Hid (Below w.heap.size w wr)) (fun iv _ => H - (intOf iv).toNat)
  case atStart => exact ⟨0, Nat.zero_le _, rfl, Lib.hid (fun k hk => absurd hk (Nat.not_lt_zero _)), Lib.hid (brf w)⟩
  case round =>
    obtain ⟨y, hy, rfl, HY, HB⟩ := hrel
    by_cases hlt : y < H
    · obtain ⟨u, cu, hu⟩ := HC.out y hlt
      have hul := HRL.out y hlt
      have HU := Lib.hid (hu.up HB.out)
      obtain ⟨A, ca, rfl, j1, j2, -⟩ := hu
      rw [bv_len, hul] at cu j1
      have cu2 := cell_up cu HB.out
      rw [bv_len, hul] at HU
      unfold maxLen at j2
      clear cu
      go_wp2_with fail
      refine (both_any _ (R.getD y []) P Q wr HU.out (by rw [hul]; exact bQ) (by rw [hul]; omega) (by omega)).mono ?_
      rintro e w2 ⟨⟨r, rfl, hr⟩, hb2⟩
      have HR := Lib.hid hr
      have HB2 := Lib.hid (bup HB.out hb2)
      clear hr hb2 HB HU hul cu2
      cases r
      · clear HY HR
        go_wp2
        go_ret
        exact ⟨false, rfl, (fun h => by cases h), HB2.out⟩
      · have HY2 : Hid (∀ k, k < y + 1 → ∃ i, P < i ∧ i < Q ∧ (R.getD k []).getD i false ≠ (R.getD k []).getD P false) := Lib.hid (fun k hk => by
          rcases Nat.lt_or_ge k y with h | h
          · exact HY.out k h
          · obtain rfl : k = y := by omega
            exact HR.out.1 rfl)
        clear HY HR
        go_wp2
        go_roundw
        case rel => exact ⟨y + 1, by omega, by go_num, HY2, HB2⟩
        case measure => simp [intOf]; omega
    · obtain rfl : y = H := by omega
      go_wp2
      go_ret
      exact ⟨true, rfl, fun _ => HY.out, HB.out⟩

/-- Light and dark exchanged. -/
def invL (L : List Nat) : List Nat := L.map (255 - ·)
theorem invL_len (L : List Nat) : (invL L).length = L.length := by simp [invL]
theorem invL_at (L : List Nat) (i : Nat) (h : i < L.length) : (invL L).getD i 0 = 255 - L.getD i 0 := by simp [invL, List.getD, h]
def invV (q : Nat) : Value := .iface 142 (.pointer (some ⟨q, 0, none⟩))
theorem newInv_any (p : Nat) (w : World) : Calls Try.prog 85 #[srcV p] w fun e w' => ∃ q, e = .returned (invV q) ∧ Blk w' q 144 #[srcV p] ∧ Below w.heap.size w w' := by
  unfold srcV
  go_enter Try.func85, Try.ntmps85
  go_wp2
  go_ret
  exact ⟨_, rfl, Blk.fresh w _ _, bal (brf w) _⟩
theorem srcInv_any (p : Nat) (w : World) : Calls Try.prog 84 #[srcV p] w fun e w' => ∃ q, e = .returned (invV q) ∧ Blk w' q 144 #[srcV p] ∧ Below w.heap.size w w' := by
  go_enter Try.func84, Try.ntmps84
  go_wp2_with fail
  refine (newInv_any p w).mono ?_
  rintro e w1 ⟨q, rfl, h1, h2⟩
  go_wp2
  go_ret
  exact ⟨q, rfl, h1, h2⟩
theorem invert_any (p : Nat) (w : World) : Calls Try.prog 78 #[.pointer (some ⟨p, 0, none⟩)] w fun e w' => ∃ q, e = .returned (invV q) ∧ Blk w' q 144 #[srcV p] ∧ Below w.heap.size w w' := by
  go_enter Try.func78, Try.ntmps78
  go_wp2_with fail
  refine (srcInv_any p w).mono ?_
  rintro e w1 ⟨q, rfl, h1, h2⟩
  go_wp2
  go_ret
  exact ⟨q, rfl, h1, h2⟩
set_option maxRecDepth 100000 in
set_option maxHeartbeats 2000000 in
theorem invMatrix_any (q p : Nat) (A : Option Addr) (c W H : Nat) (L : List Nat) (w : World) (hq : Blk w q 144 #[srcV p]) (hp : Blk w p 98 (srcC (.slice A L.length c) W H 0 0 W H)) (hv : RdT w 5 (.slice A L.length c) (b8 L))
    (hL : L.length = W * H) (hW : 1 ≤ W) (hH : 1 ≤ H) (hs : L.length ≤ 1000000) (h8 : ∀ x ∈ L, x < 256) :
    Calls Try.prog 100 #[.pointer (some ⟨q, 0, none⟩)] w fun e w' => ∃ v', e = .returned v' ∧ RdT w' 5 v' (b8 (invL L)) ∧ Below w.heap.size w w' := by
  have hHn : H ≤ L.length := by rw [hL]; exact Nat.le_mul_of_pos_left _ (by omega)
  have hWn : W ≤ L.length := by rw [hL]; exact Nat.le_mul_of_pos_right _ (by omega)
  have c0 : w.cell? ⟨q, 0, none⟩ = some (srcV p) := by rw [hq.cell]; rfl
  have d0 : w.cell? ⟨p, 0, none⟩ = some (.int .i64 W) := by rw [hp.cell]; rfl
  have d1 : w.cell? ⟨p, 1, none⟩ = some (.int .i64 H) := by rw [hp.cell]; rfl
  have HQ := Lib.hid hq; have HP := Lib.hid hp; have HV := Lib.hid hv; have HL := Lib.hid hL; have H8 := Lib.hid h8
  obtain ⟨N, hN⟩ : ∃ N, N = L.length := ⟨_, rfl⟩
  have sN : IntKind.i64.wrap ((W : Int) * (H : Int)) = (N : Int) := by
    have : (W : Int) * (H : Int) = (N : Int) := by rw [hN, hL]; simp
    rw [this, IntKind.wrap_i64]; omega
  have bN : N ≤ 1000000 := by omega
  have HNL := Lib.hid hN
  clear hq hp hv hL h8 hN hHn hWn hs
  unfold srcV at c0
  go_enter Try.func100, Try.ntmps100
  go_wp2_with fail
  refine (matrix_any p A c W H 0 0 W H L w HP.out HV.out HL.out (by omega) (by omega) (by omega) (by omega) (by rw [← HNL.out]; exact bN)).mono ?_
  rintro e w1 ⟨v1, rfl, hv1, hb1⟩
  rw [part_all _ _ _ HL.out] at hv1
  have HV1 := Lib.hid hv1; have HB1 := Lib.hid hb1
  have e0 := cell_up c0 hb1
  have f0 := cell_up d0 hb1
  have f1 := cell_up d1 hb1
  clear hv1 hb1 c0 d0 d1 HV HP HQ
  go_wp2_with fail
  refine Can.wp_region_can (fun w' => w'.cell? ⟨q, 0, none⟩ = some (.iface 94 (.pointer (some ⟨p, 0, none⟩))) ∧ w'.cell? ⟨p, 0, none⟩ = some (.int .i64 W) ∧ w'.cell? ⟨p, 1, none⟩ = some (.int .i64 H)) 999 [0, 1, 2, 3, 5, 6, 7, 8, 4, 9, 10, 11] (by kernel_rfl) (by kernel_rfl) (fun _ _ d _ _ h => by cases d <;> exact h) ⟨e0, f0, f1⟩ (fun hHeld => ?_)
  repeat (refine Can.can_pure (v := ?_) rfl rfl (Or.inl ⟨by rfl, ?_⟩) ?_; rotate_left; (focus ((intro w hSw); (try dsimp only at hSw); go_simp; (try with_reducible rfl))); (try simp only [Act.put, List.getElem_toArray, List.getElem_cons_succ, List.getElem_cons_zero, List.setIfInBounds_toArray, List.set_cons_zero, List.set_cons_succ]))
  refine Can.can_eff rfl rfl (by rfl) (fun K hK => ?_)
  go_simp
  refine (srcW_any p _ _ hHeld.2.1).mono ?_
  rintro e w ⟨rfl, rfl⟩
  refine hK.out _ _ hHeld (fun hHeld1 => ?_)
  clear hK K
  (try simp only [Act.put, List.getElem_toArray, List.getElem_cons_succ, List.getElem_cons_zero, List.setIfInBounds_toArray, List.set_cons_zero, List.set_cons_succ])
  repeat (refine Can.can_pure (v := ?_) rfl rfl (Or.inl ⟨by rfl, ?_⟩) ?_; rotate_left; (focus ((intro w hSw); (try dsimp only at hSw); go_simp; (try with_reducible rfl))); (try simp only [Act.put, List.getElem_toArray, List.getElem_cons_succ, List.getElem_cons_zero, List.setIfInBounds_toArray, List.set_cons_zero, List.set_cons_succ]))
  refine Can.can_eff rfl rfl (by rfl) (fun K hK => ?_)
  go_simp
  refine (srcH_any p _ _ hHeld1.2.2).mono ?_
  rintro e w ⟨rfl, rfl⟩
  refine hK.out _ _ hHeld1 (fun hHeld2 => ?_)
  clear hK K
  (try simp only [Act.put, List.getElem_toArray, List.getElem_cons_succ, List.getElem_cons_zero, List.setIfInBounds_toArray, List.set_cons_zero, List.set_cons_succ])
  repeat (refine Can.can_pure (v := ?_) rfl rfl (Or.inl ⟨by rfl, ?_⟩) ?_; rotate_left; (focus ((intro w hSw); (try dsimp only at hSw); go_simp; (try with_reducible rfl))); (try simp only [Act.put, List.getElem_toArray, List.getElem_cons_succ, List.getElem_cons_zero, List.setIfInBounds_toArray, List.set_cons_zero, List.set_cons_succ]))
  refine Can.can_done ?_
  have HV2 := Lib.hid (HV1.out.up (bdr (brf w1)))
  have HB2 := Lib.hid (HB1.out.drew)
  clear hHeld hHeld1 hHeld2 e0 f0 f1 HV1 HB1 sN
  generalize w1.drew = w2 at *
  obtain ⟨A1, c1, rfl, k1, k2, -⟩ := id HV2.out
  rw [b8_len, ← HNL.out] at HV2
  rw [b8_len, ← HNL.out] at k1
  rw [b8_len, ← HNL.out]
  unfold maxLen at k2
  have hmk := run_mk (P := Try.prog) 30 5 (.int .u8 0) 1 Try.underlying30 info_b8 rfl N (by omega) (by omega) w2
  have hz : rep N (Value.int IntKind.u8 0) = (b8 (fillA (invL L) 0 N 0)).toArray := by rw [fill_zero]; simp [rep, b8]
  rw [hz] at hmk
  clear hz
  have e2 : ¬ (N : Int) < 0 := by omega
  go_wp2
  have HX0 := Lib.hid (Blk.fresh w2 5 (b8 (fillA (invL L) 0 N 0)).toArray)
  have HBx0 := Lib.hid (bal (brf w2) (.cells (b8 (fillA (invL L) 0 N 0)).toArray 5))
  clear hmk e2
  go_loopw [6] (fun iv wr => ∃ k : Nat, k ≤ N ∧ iv = .int .i64 k ∧ Hid (Blk wr w2.heap.size 5 (b8 (fillA (invL L) 0 N k)).toArray) ∧ Hid (Below w2.heap.size w2 wr)) (fun iv _ => N - (intOf iv).toNat)
  case atStart => exact ⟨0, Nat.zero_le _, rfl, HX0, HBx0⟩
  case round =>
    clear HX0 HBx0
    obtain ⟨k, hk, rfl, HX, HB⟩ := hrel
    have hil := invL_len L
    rw [← HNL.out] at hil
    by_cases hlt : k < N
    · obtain ⟨bb, oo, u, rfl, hbw, hu, hc⟩ := HV2.out.rd.at_ hlt
      have hu2 := b8_at L k (by rw [← HNL.out]; exact hlt)
      rw [hu2] at hu
      injection hu with hu
      subst hu
      have cy := (below_cells HB.out bb _ hbw).trans hc
      have hy : L.getD k 0 < 256 := by
        rw [List.getD, List.getElem?_eq_getElem (by rw [← HNL.out]; exact hlt)]
        exact H8.out _ (List.getElem_mem _)
      have hiv := invL_at L k (by rw [← HNL.out]; exact hlt)
      have hset := fill_set (invL L) 0 N k (by omega) (by omega)
      rw [List.getD, List.getElem?_eq_getElem (by omega), Option.getD_some] at hiv
      rw [hiv] at hset
      generalize L.getD k 0 = y at *
      obtain ⟨z, hz⟩ : ∃ z, z = 255 - y := ⟨_, rfl⟩
      rw [← hz] at hset
      have eA := u8_mask y hy
      have eS : (255 : Int) - (y : Int) = (z : Int) := by omega
      have hz2 : z < 256 := by omega
      have hput := HX.out.put k (.int .u8 (z : Int))
      rw [List.setIfInBounds_toArray, b8_set, hset] at hput
      have HX2 := Lib.hid hput
      have HB3 := Lib.hid (HB.out.setCell (p := ⟨w2.heap.size, k, none⟩) (Nat.le_refl _) (.int .u8 (z : Int)))
      have cO : ∃ u, wr.cell? ⟨w2.heap.size, k, none⟩ = some u := ⟨.int .u8 0, by
        rw [HX.out.cell, List.getElem?_toArray]
        unfold b8
        rw [List.getElem?_map, fill_at_k (invL L) 0 N k hlt (by omega)]; rfl⟩
      obtain ⟨u, cO⟩ := cO
      have fO : wr.frozen? ⟨w2.heap.size, k, none⟩ = false := HX.out.frozen _
      clear hset hput hiv hc hu2 HX HB hz hil
      go_wp2
      go_roundw
      case rel => exact ⟨k + 1, by omega, by go_num, HX2, HB3⟩
      case measure => simp [intOf]; omega
    · obtain rfl : k = N := by omega
      have hx := HX.out
      have hz := fill_full (invL L) 0
      rw [hil] at hz
      rw [hz] at hx
      have HX2 := Lib.hid hx
      have HB3 := Lib.hid (bup HB2.out HB.out)
      have HI := Lib.hid hil
      clear hx hz HX hil HB
      go_wp2
      go_ret
      exact ⟨_, rfl, RdT.of_blk (g := w2.heap.size) HX2.out (by rw [b8_len, HI.out]) (by rw [b8_len, HI.out]; exact Nat.le_refl _) (by unfold maxLen; omega), HB3.out⟩
set_option maxRecDepth 100000 in
/-- impl.GrayInvert. -/
theorem grayInvert_any (v : Value) (L : List Nat) (W H : Nat) (w : World) (hv : RdT w 5 v (b8 L)) (hL : L.length = W * H) (hW : 1 ≤ W) (hH : 1 ≤ H) (hs : L.length ≤ 1000000) (h8 : ∀ x ∈ L, x < 256) :
    Calls Try.prog 20 #[.int .i64 W, .int .i64 H, v] w fun e w' => ∃ v', e = .returned (.tuple #[v', .bool true]) ∧ RdT w' 5 v' (b8 (invL L)) ∧ Below w.heap.size w w' := by
  have HV := Lib.hid hv; have HL := Lib.hid hL; have H8 := Lib.hid h8
  obtain ⟨i1, hi1, hy0, hy1, hy2⟩ := info_three info_b8
  clear hv hL h8
  go_enter Try.func20, Try.ntmps20
  go_wp2_with fail
  refine (source_any W H v L w HV.out HL.out hW hH hs).mono ?_
  rintro e w1 ⟨p, v1, rfl, hp, hv1, hb1⟩
  obtain ⟨A, c, rfl, -, -, -⟩ := id hv1
  rw [b8_len] at hp hv1
  have HP1 := Lib.hid hp; have HV1 := Lib.hid hv1; have HB1 := Lib.hid hb1
  clear hp hv1 hb1 HV
  unfold srcV
  go_wp2_with fail
  refine (invert_any p w1).mono ?_
  rintro e w2 ⟨q, rfl, hq, hb2⟩
  have HP2 := Lib.hid (HP1.out.up hb2); have HV2 := Lib.hid (HV1.out.up hb2); have HB2 := Lib.hid (bup HB1.out hb2); have HQ := Lib.hid hq
  clear hq hb2 HP1 HV1 HB1
  unfold invV
  go_wp2_with fail
  refine (invMatrix_any q p A c W H L w2 HQ.out HP2.out HV2.out HL.out hW hH hs H8.out).mono ?_
  rintro e w3 ⟨v3, rfl, hv3, hb3⟩
  have HV3 := Lib.hid hv3
  have HB3 := Lib.hid (bup HB2.out hb3)
  have HIL := Lib.hid (invL_len L)
  clear hv3 hb3 HB2 HP2 HV2 HQ
  go_wp2_with (at_builtin; refine list_app_rd _ rfl _ _ 30 rfl w3.heap.size 5 i1 _ 1 Try.underlying30 hi1 hy0 hy1 hy2 rfl _ 0 [] rfl (own_nil _ _ _) _ _ (b8 (invL L)) rfl HV3.out.rd (b8_one _) (by rw [b8_len, HIL.out]; unfold maxLen; omega) (by rw [b8_len, HIL.out]; omega) (Nat.le_refl _) ?_; intro v6 w6 ho6 hg6)
  have hb6 := below_grown (u := .slice none 0 0) (brf w3) hg6 (own_nil w3 w3.heap.size 5) (Nat.le_refl _)
  rw [List.nil_append, Nat.zero_add] at ho6
  have hr6 := RdT.of_own ho6
  obtain ⟨A6, c6, rfl, -, -, -⟩ := id hr6
  have HR6 := Lib.hid hr6
  have HB6 := Lib.hid (bup HB3.out hb6)
  clear hr6 ho6 hg6 hb6
  go_wp2
  go_returns
  exact ⟨_, rfl, HR6.out, HB6.out⟩
end Go.Proofs.Ytimfaplnhlnjlaa
