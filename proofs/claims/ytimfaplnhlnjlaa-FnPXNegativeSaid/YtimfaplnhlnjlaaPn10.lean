/-
  WALKS: impl.BlackMatrix; THE LAW of a picture whose light and dark are exchanged.
-/
import Derived.Test.YtimfaplnhlnjlaaPn9
import Derived.Test.YtimfaplnhlnjlaaRo5
namespace Go.Proofs.Ytimfaplnhlnjlaa
open Go.RowKit

set_option maxRecDepth 100000 in
theorem black_any (v : Value) (W H d l : Nat) (L : List Nat) (f : Nat → Bool) (w : World) (hv : RdT w 5 v (b8 L)) (hL : L.length = W * H) (hW : 1 ≤ W) (hH : 1 ≤ H) (hW2 : W ≤ 100) (hH2 : H ≤ 100) (hT : Two L f d l) (hdl : d + 24 ≤ l) (hl : l < 256)
    (hd1 : ∃ i, W / 5 ≤ i ∧ i < W * 4 / 5 ∧ f (H * 1 / 5 * W + i) = true) (hl1 : ∃ i, W / 5 ≤ i ∧ i < W * 4 / 5 ∧ f (H * 1 / 5 * W + i) = false) :
    Calls Try.prog 27 #[.int .i64 W, .int .i64 H, v, .bool false] w fun e w' => ∃ q g, e = .returned (.pointer (some ⟨q, 0, none⟩)) ∧ MatAt w' q g W H (fun x y => f (y * W + x)) ∧ Below w.heap.size w w' := by
  have HV := Lib.hid hv; have HT := Lib.hid hT; have HD1 := Lib.hid hd1; have HL1 := Lib.hid hl1; have HL := Lib.hid hL
  have HLS : Hid (L.length ≤ 1000000) := Lib.hid (hL ▸ Nat.le_trans (Nat.mul_le_mul hW2 hH2) (by decide))
  clear hv hT hd1 hl1 hL
  go_enter Try.func27, Try.ntmps27
  go_wp2_with fail
  refine (source_any W H v L w HV.out HL.out hW hH HLS.out).mono ?_
  rintro e w1 ⟨p, v1, rfl, hp, hv1, hb1⟩
  obtain ⟨A, c, rfl, -, -, -⟩ := id hv1
  rw [b8_len] at hp hv1
  have hpl := hp.lt
  have HP1 := Lib.hid hp; have HV1 := Lib.hid hv1; have HB1 := Lib.hid hb1
  clear hp hv1 hb1 HV
  go_wp2_with fail
  refine (newBin_any p w1).mono ?_
  rintro e w2 ⟨pb, ga, kb, rfl, hbin, hkb, hk1, hk2, hb2⟩
  have HP2 := Lib.hid (HP1.out.up hb2); have HV2 := Lib.hid (HV1.out.up hb2); have HB2 := Lib.hid (bup HB1.out hb2)
  have HBIN := Lib.hid hbin; have HKB := Lib.hid hkb
  have hsz := HB1.out.size
  clear hbin hkb hb2 HP1 HV1 HB1
  unfold binV
  go_wp2_with fail
  refine (blackMat_any pb ga kb p A c W H d l L f w2 HBIN.out HKB.out hk1 HP2.out (by omega) HV2.out HL.out hW hH hW2 hH2 HT.out hdl hl HD1.out HL1.out).mono ?_
  rintro e w3 ⟨q, g, rfl, hx, hb3⟩
  have HX := Lib.hid hx
  have HB3 := Lib.hid (HB2.out.trans (hb3.mono (by omega)))
  clear hx hb3 HP2 HV2 HBIN HKB HB2
  go_wp2
  go_ret
  exact ⟨q, g, rfl, HX.out, HB3.out⟩
set_option maxRecDepth 100000 in
theorem blackMatrix_any (v : Value) (W H d l : Nat) (L : List Nat) (f : Nat → Bool) (w : World) (hv : RdT w 5 v (b8 L)) (hL : L.length = W * H) (hW : 1 ≤ W) (hH : 1 ≤ H) (hW2 : W ≤ 100) (hH2 : H ≤ 100) (hT : Two L f d l) (hdl : d + 24 ≤ l) (hl : l < 256)
    (hd1 : ∃ i, W / 5 ≤ i ∧ i < W * 4 / 5 ∧ f (H * 1 / 5 * W + i) = true) (hl1 : ∃ i, W / 5 ≤ i ∧ i < W * 4 / 5 ∧ f (H * 1 / 5 * W + i) = false) :
    Calls Try.prog 21 #[.int .i64 W, .int .i64 H, v, .bool false] w fun e w' => ∃ v', e = .returned (.tuple #[v', .bool true]) ∧ RowsT w' v' (rowsF W H (fun x y => f (y * W + x))) ∧ Below w.heap.size w w' := by
  have HC := Lib.hid (black_any v W H d l L f w hv hL hW hH hW2 hH2 hT hdl hl hd1 hl1)
  clear hv hT hd1 hl1 hL
  go_enter Try.func21, Try.ntmps21
  go_wp2_with fail
  refine (HC.out).mono ?_
  rintro e w1 ⟨q, g, rfl, hx, hb1⟩
  have HX := Lib.hid hx
  have HB1 := Lib.hid hb1
  clear hx hb1 HC
  go_wp2_with fail
  refine (rowsOf_any q g W H _ w1 HX.out (by omega) (by omega)).mono ?_
  rintro e w2 ⟨v2, rfl, hr, hb2⟩
  have HR := Lib.hid hr
  have HB2 := Lib.hid (bup HB1.out hb2)
  clear hr hb2 HX HB1
  go_wp2
  go_returns
  exact ⟨v2, rfl, HR.out, HB2.out⟩

theorem div_row (W y x : Nat) (hx : x < W) : (y * W + x) / W = y ∧ (y * W + x) % W = x :=
  ⟨by rw [Nat.mul_comm y W, Nat.mul_add_div (by omega), Nat.div_eq_of_lt hx]; rfl, by rw [Nat.mul_comm y W, Nat.mul_add_mod]; exact Nat.mod_eq_of_lt hx⟩
/-- Which pixels are light. -/
def lightF (R : List (List Bool)) (W j : Nat) : Bool := !((R.getD (j / W) []).getD (j % W) false)
theorem lightF_at (R : List (List Bool)) (W y x : Nat) (hx : x < W) : lightF R W (y * W + x) = !((R.getD y []).getD x false) := by
  unfold lightF; rw [(div_row W y x hx).1, (div_row W y x hx).2]
theorem two_inv {R : List (List Bool)} {G : List Nat} {W H d l : Nat} (hW : 1 ≤ W) (hG : G.length = W * H) (hA : ∀ x y, x < W → y < H → G.getD (y * W + x) 0 = if (R.getD y []).getD x false = true then d else l) : Two (invL G) (lightF R W) (255 - l) (255 - d) := fun j hj => by
  rw [invL_len, hG] at hj
  have h1 : j % W < W := Nat.mod_lt _ (by omega)
  have h2 : j / W < H := Nat.div_lt_of_lt_mul hj
  have h3 := hA (j % W) (j / W) h1 h2
  rw [Nat.div_add_mod' j W] at h3
  rw [invL_at G j (by rw [hG]; exact hj), h3]
  unfold lightF
  cases (R.getD (j / W) []).getD (j % W) false <;> rfl
set_option maxRecDepth 100000 in
set_option maxHeartbeats 4000000 in
theorem neg_walk (v : Value) (l : List Bool) (a b dN lN : Nat) (w : World) (hv : Rd w w.heap.size v (bv l)) (ha : a < 256) (hb : b < 256) (hd : dN < 256) (hl : lN < 256) :
    Calls Try.prog 6 #[v, .int .u8 a, .int .u8 b, .int .u8 dN, .int .u8 lN] w fun e w' => e = .returned (.bool true) ∧ Below w.heap.size w w' := by
  obtain ⟨A, cap, rfl, h1, h2, h3⟩ := id hv
  have HV := Lib.hid hv; clear hv h3
  rw [bv_len] at *
  unfold maxLen at h2
  by_cases hbig : (2147483647 : Int) < (l.length : Int)
  · go_enter Try.func6, Try.ntmps6
    go_wp2
    go_ret
    exact ⟨rfl, brf w⟩
  go_enter Try.func6, Try.ntmps6
  go_wp2_with fail
  refine (picture_any _ l a b w HV.out ha hb).mono ?_
  rintro e w1 ⟨v1, W, H, rfl, hW1, hW2, hH1, hH2, hr, hb1⟩
  have hlen := biRows_len W H l
  have hrl : ∀ y, y < H → ((biRows W H l).getD y []).length = W := fun y hy => by rw [biRows_at W H l y hy, biRow_len]
  generalize biRows W H l = R at *
  have HR1 := Lib.hid hr; have HB1 := Lib.hid hb1; have HRL := Lib.hid hrl; have HLE := Lib.hid hlen
  clear hr hb1 hrl hlen HV hbig
  go_wp2_with fail
  refine (middle_any v1 R W H w1 HR1.out HLE.out HRL.out hH1 hH2 hW1 hW2).mono ?_
  rintro e w2 ⟨r, rfl, hmid, hb2⟩
  have HM := Lib.hid hmid
  have HR2 := Lib.hid (HR1.out.up hb2); have HB2 := Lib.hid (bup HB1.out hb2)
  clear hmid hb2 HR1 HB1
  cases r
  · go_wp2
    go_ret
    exact ⟨rfl, HB2.out⟩
  have hmid := HM.out rfl
  have HMID := Lib.hid hmid
  clear hmid HM
  go_wp2_with fail
  refine (pxTwo_any dN lN w2 hd hl).mono ?_
  rintro e w3 ⟨⟨d, li, rfl, hdl, hli⟩, hb3⟩
  have HR3 := Lib.hid (HR2.out.up hb3); have HB3 := Lib.hid (bup HB2.out hb3)
  clear hb3 HR2 HB2
  go_wp2_with fail
  refine (draw_any v1 R W H d li w3 HR3.out HLE.out HRL.out hW1 hH1 (by omega) (by omega)).mono ?_
  rintro e w4 ⟨v4, rfl, hv4, hb4⟩
  have hGl := drawL_len R W H d li
  have hG8 := drawL_lt R W H d li (by omega) hli
  have hGat := drawL_at R W H d li
  generalize drawL R W H d li = G at *
  have HG8 := Lib.hid hG8; have HGL := Lib.hid hGl; have HGA := Lib.hid hGat
  have HV4 := Lib.hid hv4; have HR4 := Lib.hid (HR3.out.up hb4); have HB4 := Lib.hid (bup HB3.out hb4)
  have HGS : Hid (G.length ≤ 1000000) := Lib.hid (hGl ▸ Nat.le_trans (Nat.mul_le_mul hW2 hH2) (by decide))
  clear hG8 hGl hGat hv4 hb4 HR3 HB3
  go_wp2_with fail
  refine (grayInvert_any v4 G W H w4 HV4.out HGL.out hW1 hH1 HGS.out HG8.out).mono ?_
  rintro e w5 ⟨v5, rfl, hv5, hb5⟩
  have hIl := invL_len G
  obtain ⟨A4, c4, rfl, -, -, -⟩ := id HV4.out
  obtain ⟨A5, c5, rfl, -, -, -⟩ := id hv5
  rw [b8_len, b8_len, hIl]
  rw [b8_len, hIl] at hv5
  have HIL := Lib.hid hIl
  have HV5 := Lib.hid hv5; have HR5 := Lib.hid (HR4.out.up hb5); have HB5 := Lib.hid (bup HB4.out hb5)
  clear hIl hv5 hb5 HR4 HB4 HV4
  go_wp2_with fail
  have hboth : (∃ i, W / 5 ≤ i ∧ i < W * 4 / 5 ∧ lightF R W (H * 1 / 5 * W + i) = true) ∧ (∃ i, W / 5 ≤ i ∧ i < W * 4 / 5 ∧ lightF R W (H * 1 / 5 * W + i) = false) := by
    obtain ⟨i, i1, i2, i3⟩ := HMID.out (H * 1 / 5) (by omega)
    have hP := lightF_at R W (H * 1 / 5) (W / 5) (by omega)
    have hI := lightF_at R W (H * 1 / 5) i (by omega)
    cases ha : (R.getD (H * 1 / 5) []).getD (W / 5) false
    · rw [ha] at i3 hP
      have : (R.getD (H * 1 / 5) []).getD i false = true := by simpa using i3
      rw [this] at hI
      exact ⟨⟨W / 5, Nat.le_refl _, by omega, hP⟩, ⟨i, by omega, by omega, hI⟩⟩
    · rw [ha] at i3 hP
      have : (R.getD (H * 1 / 5) []).getD i false = false := by simpa using i3
      rw [this] at hI
      exact ⟨⟨i, by omega, by omega, hI⟩, ⟨W / 5, Nat.le_refl _, by omega, hP⟩⟩
  have hT := two_inv (R := R) hW1 HGL.out HGA.out
  refine (blackMatrix_any _ W H (255 - li) (255 - d) (invL G) (lightF R W) w5 HV5.out (by rw [HIL.out]; exact HGL.out) hW1 hH1 hW2 hH2 hT (by omega) (by omega) hboth.1 hboth.2).mono ?_
  rintro e w6 ⟨v6, rfl, hr6, hb6⟩
  have hOl := rowsF_len W H (fun x y => lightF R W (y * W + x))
  have HOY : Hid (∀ y, y < H → ((rowsF W H (fun x y => lightF R W (y * W + x))).getD y []).length = W ∧ ∀ x, x < W → ((rowsF W H (fun x y => lightF R W (y * W + x))).getD y []).getD x false = !((R.getD y []).getD x false)) := Lib.hid (fun y hy => by
    rw [rowsF_at W H _ y hy]
    refine ⟨rowF_len _ _ _, fun x hx => ?_⟩
    rw [List.getD, List.getElem?_eq_getElem (by rw [rowF_len]; exact hx), Option.getD_some, rowF_at]
    exact lightF_at R W y x hx)
  generalize rowsF W H (fun x y => lightF R W (y * W + x)) = O at *
  have hRl := HLE.out
  obtain ⟨b6, o6, c6, rfl, j1, j2, HC6⟩ := hr6.at_ (by omega)
  have hRR := HR5.out.up hb6
  obtain ⟨bR, oR, cR, rfl, j3, j4, HCR⟩ := hRR.at_ (by omega)
  rw [hOl] at j1 HC6 ⊢
  rw [hRl] at j3 HCR ⊢
  have HB6 := Lib.hid (bup HB5.out hb6)
  have HRLs := HRL.out
  have HRL2 := Lib.hid HRLs
  clear hr6 hb6 hRR HV5 HR5 HB5 hT hboth HIL HGS HGL HGA HG8 HMID hOl hRl HRLs HRL HLE
  go_wp2_with fail
  go_loopw [20] (fun iv wr => ∃ y : Nat, y ≤ H ∧ iv = .int .i64 y ∧ Hid (Below w6.heap.size w6 wr)) (fun iv _ => H - (intOf iv).toNat)
  case atStart => exact ⟨0, Nat.zero_le _, rfl, Lib.hid (brf w6)⟩
  case round =>
    obtain ⟨y, hy, rfl, HB⟩ := hrel
    by_cases hyl : y < H
    · obtain ⟨u, cu, hu⟩ := HC6.out y hyl
      obtain ⟨t, ct, ht⟩ := HCR.out y hyl
      have hol := HOY.out y hyl
      have hrl := HRL2.out y hyl
      obtain ⟨bu, ou, lu, rfl, i1, i2, HCU⟩ := row_at hu (by omega)
      obtain ⟨bt, ot, lt, rfl, i3, i4, HCT⟩ := row_at ht (by omega)
      rw [hol.1] at cu i1 HCU
      rw [hrl] at ct i3 HCT
      have HCu := Lib.hid cu
      have HCt := Lib.hid ct
      have HOL := Lib.hid hol.2
      have cu2 := cell_up cu HB.out
      clear hu ht hol hrl cu ct
      go_wp2_with fail
      clear cu2
      go_loopw [21] (fun iv wr => ∃ x : Nat, x ≤ W ∧ iv = .int .i64 x ∧ Hid (Below w6.heap.size w6 wr)) (fun iv _ => W - (intOf iv).toNat)
      case atStart => exact ⟨0, Nat.zero_le _, rfl, HB⟩
      case round =>
        rename World => ws
        clear HB
        obtain ⟨x, hx, rfl, HB⟩ := hrel
        by_cases hxl : x < W
        · have r1 := cell_up HCu.out HB.out
          have r2 := cell_up HCt.out HB.out
          have r3 := cell_up (HCU.out x hxl) HB.out
          have r4 := cell_up (HCT.out x hxl) HB.out
          rw [HOL.out x hxl] at r3
          generalize (R.getD y []).getD x false = q at *
          cases q
          · go_wp2_with fail
            refine Can.wp_region_can (fun w' => w'.cell? ⟨b6, o6 + y, none⟩ = some (.slice (some ⟨bu, ou, none⟩) W lu) ∧ w'.cell? ⟨bR, oR + y, none⟩ = some (.slice (some ⟨bt, ot, none⟩) W lt) ∧ w'.cell? ⟨bu, ou + x, none⟩ = some (.bool true) ∧ w'.cell? ⟨bt, ot + x, none⟩ = some (.bool false)) 999 [0, 1, 2, 3, 4, 5, 6, 7, 8, 9, 10, 11, 12, 13, 14] (by kernel_rfl) (by kernel_rfl) (fun _ _ d _ _ h => by cases d <;> exact h) ⟨r1, r2, r3, r4⟩ (fun hHeld => ?_)
            repeat (refine Can.can_pure (v := ?_) rfl rfl (Or.inl ⟨by rfl, ?_⟩) ?_; rotate_left; (focus ((intro w hSw); (try dsimp only at hSw); go_simp; (try with_reducible rfl))); (try simp only [Act.put, List.getElem_toArray, List.getElem_cons_succ, List.getElem_cons_zero, List.setIfInBounds_toArray, List.set_cons_zero, List.set_cons_succ]))
            refine Can.can_done ?_
            have HB7 := Lib.hid (HB.out.drew)
            clear hHeld r1 r2 r3 r4 HB
            generalize World.drew ws = wq at *
            go_wp2
            go_roundw
            case rel => exact ⟨x + 1, by omega, by go_num, HB7⟩
            case measure => simp [intOf]; omega
          · go_wp2_with fail
            refine Can.wp_region_can (fun w' => w'.cell? ⟨b6, o6 + y, none⟩ = some (.slice (some ⟨bu, ou, none⟩) W lu) ∧ w'.cell? ⟨bR, oR + y, none⟩ = some (.slice (some ⟨bt, ot, none⟩) W lt) ∧ w'.cell? ⟨bu, ou + x, none⟩ = some (.bool false) ∧ w'.cell? ⟨bt, ot + x, none⟩ = some (.bool true)) 999 [0, 1, 2, 3, 4, 5, 6, 7, 8, 9, 10, 11, 12, 13, 14] (by kernel_rfl) (by kernel_rfl) (fun _ _ d _ _ h => by cases d <;> exact h) ⟨r1, r2, r3, r4⟩ (fun hHeld => ?_)
            repeat (refine Can.can_pure (v := ?_) rfl rfl (Or.inl ⟨by rfl, ?_⟩) ?_; rotate_left; (focus ((intro w hSw); (try dsimp only at hSw); go_simp; (try with_reducible rfl))); (try simp only [Act.put, List.getElem_toArray, List.getElem_cons_succ, List.getElem_cons_zero, List.setIfInBounds_toArray, List.set_cons_zero, List.set_cons_succ]))
            refine Can.can_done ?_
            have HB7 := Lib.hid (HB.out.drew)
            clear hHeld r1 r2 r3 r4 HB
            generalize World.drew ws = wq at *
            go_wp2
            go_roundw
            case rel => exact ⟨x + 1, by omega, by go_num, HB7⟩
            case measure => simp [intOf]; omega
        · obtain rfl : x = W := by omega
          go_wp2
          go_roundw
          case rel => exact ⟨y + 1, by omega, by go_num, HB⟩
          case measure => simp [intOf]; omega
    · obtain rfl : y = H := by omega
      have HB7 := Lib.hid (bup HB6.out HB.out)
      go_wp2
      go_ret
      exact ⟨rfl, HB7.out⟩
end Go.Proofs.Ytimfaplnhlnjlaa
