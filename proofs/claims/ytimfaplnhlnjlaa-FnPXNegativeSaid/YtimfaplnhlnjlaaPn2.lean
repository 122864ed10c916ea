/-
  WALK: spec.PXDraw: rows of modules as grays, each one a pixel, without margins.
-/
import Derived.Test.YtimfaplnhlnjlaaPn1
import Derived.Test.YtimfaplnhlnjlaaSx
namespace Go.Proofs.Ytimfaplnhlnjlaa
open Go.RowKit

/-- The grays of rows. -/
def drawL (R : List (List Bool)) (W H d l : Nat) : List Nat := (List.range (W * H)).map fun j => if (R.getD (j / W) []).getD (j % W) false = true then d else l
theorem drawL_len (R : List (List Bool)) (W H d l : Nat) : (drawL R W H d l).length = W * H := by simp [drawL]
theorem drawL_at (R : List (List Bool)) (W H d l x y : Nat) (hx : x < W) (hy : y < H) : (drawL R W H d l).getD (y * W + x) 0 = if (R.getD y []).getD x false = true then d else l := by
  have h : y * W + x < W * H := by have := Nat.mul_le_mul_right W (show y + 1 ≤ H by omega); rw [Nat.add_mul, Nat.one_mul] at this; rw [Nat.mul_comm W H]; omega
  have h1 : (y * W + x) / W = y := by rw [Nat.mul_comm y W, Nat.mul_add_div (by omega), Nat.div_eq_of_lt hx]; rfl
  have h2 : (y * W + x) % W = x := by rw [Nat.mul_comm y W, Nat.mul_add_mod]; exact Nat.mod_eq_of_lt hx
  simp only [drawL]
  rw [List.getD, List.getElem?_map, List.getElem?_range h]
  simp only [Option.map_some, Option.getD_some, h1, h2]
theorem drawL_lt (R : List (List Bool)) (W H d l : Nat) (hd : d < 256) (hl : l < 256) : ∀ x ∈ drawL R W H d l, x < 256 := fun x hx => by
  simp only [drawL, List.mem_map, List.mem_range] at hx
  obtain ⟨i, _, rfl⟩ := hx
  split <;> assumption
/-- As far as the pixel n. -/
theorem draw_step (R : List (List Bool)) (W H d l x y : Nat) (hx : x < W) (hy : y < H) : b8 ((drawL R W H d l).take (y * W + (x + 1))) = b8 ((drawL R W H d l).take (y * W + x)) ++ [.int .u8 ((if (R.getD y []).getD x false = true then d else l : Nat) : Int)] := by
  have h : y * W + x < (drawL R W H d l).length := by rw [drawL_len]; have := Nat.mul_le_mul_right W (show y + 1 ≤ H by omega); rw [Nat.add_mul, Nat.one_mul] at this; rw [Nat.mul_comm W H]; omega
  have h2 := drawL_at R W H d l x y hx hy
  rw [List.getD, List.getElem?_eq_getElem h, Option.getD_some] at h2
  rw [← Nat.add_assoc, List.take_succ_eq_append_getElem h, h2]
  simp [b8]

set_option maxRecDepth 100000 in
set_option maxHeartbeats 4000000 in
theorem draw_any (v : Value) (R : List (List Bool)) (W H d l : Nat) (w : World) (hv : RowsT w v R) (hR : R.length = H) (hr : ∀ y, y < H → (R.getD y []).length = W) (hW1 : 1 ≤ W) (hH1 : 1 ≤ H) (hW : W ≤ 200) (hH : H ≤ 200) :
    Calls Try.prog 16 #[v, .int .i64 1, .agg #[.int .i64 0, .int .i64 0, .int .i64 0, .int .i64 0], .int .u8 d, .int .u8 l] w fun e w' =>
      ∃ v', e = .returned (.tuple #[.int .i64 W, .int .i64 H, v']) ∧ RdT w' 5 v' (b8 (drawL R W H d l)) ∧ Below w.heap.size w w' := by
  obtain ⟨b, o, cap, rfl, k1, k2, HR⟩ := hv.at_ (by omega)
  rw [hR] at k1 HR ⊢
  obtain ⟨u0, cu0, hu0⟩ := HR.out 0 (by omega)
  obtain ⟨b0, o0, c0, rfl, j1, j2, -⟩ := row_at hu0 (by rw [hr 0 (by omega)]; omega)
  rw [hr 0 (by omega)] at cu0 j1
  rw [Nat.add_zero] at cu0
  have hbw := World.block_lt_of_cell? w _ cu0
  have HRL := Lib.hid hr
  clear hr hu0 hv hR
  obtain ⟨N, hN⟩ : ∃ N, N = W * H := ⟨_, rfl⟩
  have hN2 : N ≤ 40000 := by rw [hN]; exact Nat.mul_le_mul hW hH
  have sN : wrap64 ((W : Int) * (H : Int)) = (N : Int) := by
    have : (W : Int) * (H : Int) = (N : Int) := by rw [hN]; simp
    rw [this]; unfold wrap64; omega
  have HN := Lib.hid hN; clear hN
  obtain ⟨i1, hi1, hy0, hy1, hy2⟩ := info_three info_b8
  have hmk := fun a => run_mk0 (P := Try.prog) 30 5 i1 (.int .u8 0) 1 Try.underlying30 hi1 hy0 hy1 hy2 rfl N (by omega) (by omega) a
  have e2 : ¬ (N : Int) < 0 := by omega
  obtain ⟨wm, hwm⟩ : ∃ wm, wm = w.alloc (Obj.cells #[Value.int .i64 0, .int .i64 0, .int .i64 0, .int .i64 0] 45) := ⟨_, rfl⟩
  have hbm : Blk wm w.heap.size 45 #[Value.int .i64 0, .int .i64 0, .int .i64 0, .int .i64 0] := by rw [hwm]; exact Blk.fresh w _ _
  have hbl : Below w.heap.size w wm := by rw [hwm]; exact bal (brf w) _
  have hsz : wm.heap.size = w.heap.size + 1 := by rw [hwm]; simp
  have cU0 := (cell_up cu0 hbl)
  have HBM := Lib.hid hbm; clear hbm
  have HBL := Lib.hid hbl; clear hbl
  have HWM := Lib.hid hwm.symm; clear hwm
  have m0 : wm.cell? ⟨w.heap.size, 0, none⟩ = some (.int .i64 0) := by rw [HBM.out.cell]; rfl
  have m1 : wm.cell? ⟨w.heap.size, 1, none⟩ = some (.int .i64 0) := by rw [HBM.out.cell]; rfl
  have m2 : wm.cell? ⟨w.heap.size, 2, none⟩ = some (.int .i64 0) := by rw [HBM.out.cell]; rfl
  have m3 : wm.cell? ⟨w.heap.size, 3, none⟩ = some (.int .i64 0) := by rw [HBM.out.cell]; rfl
  have wW : IntKind.i64.wrap (W : Int) = (W : Int) := by rw [IntKind.wrap_i64]; omega
  have wH : IntKind.i64.wrap (H : Int) = (H : Int) := by rw [IntKind.wrap_i64]; omega
  go_enter Try.func16, Try.ntmps16
  go_wp2_with fail
  rw [HWM.out]
  refine Can.wp_region_can (fun w' => w'.cell? ⟨w.heap.size, 0, none⟩ = some (.int .i64 0) ∧ w'.cell? ⟨w.heap.size, 1, none⟩ = some (.int .i64 0) ∧ w'.cell? ⟨w.heap.size, 2, none⟩ = some (.int .i64 0) ∧ w'.cell? ⟨w.heap.size, 3, none⟩ = some (.int .i64 0)) 999 [0, 1, 2, 3, 4, 5, 6, 7, 8, 9, 10, 11, 12, 13, 14, 15, 16, 17, 18, 19, 20] (by kernel_rfl) (by kernel_rfl) (fun _ _ d _ _ h => by cases d <;> exact h) ⟨m0, m1, m2, m3⟩ (fun hHeld => ?_)
  repeat (refine Can.can_pure (v := ?_) rfl rfl (Or.inl ⟨by rfl, ?_⟩) ?_; rotate_left; (focus ((intro w hSw); (try dsimp only at hSw); go_simp; (try with_reducible rfl))); (try simp only [Act.put, List.getElem_toArray, List.getElem_cons_succ, List.getElem_cons_zero, List.setIfInBounds_toArray, List.set_cons_zero, List.set_cons_succ]))
  refine Can.can_done ?_
  clear hHeld m0 m1 m2 m3 cu0 cU0
  have HBQ := Lib.hid (HBL.out.drew)
  have HBMq := Lib.hid (HBM.out.drew)
  have hszq : wm.drew.heap.size = w.heap.size + 1 := hsz
  clear HBM HBL HWM hsz
  generalize wm.drew = wq at *
  go_wp2_with fail
  clear sN
  have hb0 : Blk (wq.alloc (Obj.cells (rep N (Value.int IntKind.u8 0)) 5)) (w.heap.size + 1) 5 (rep N (Value.int IntKind.u8 0)) := Blk.fresh' hszq
  have HO0 : Hid ((wq.alloc (Obj.cells (rep N (Value.int IntKind.u8 0)) 5)).ownsRow (w.heap.size + 1) 5 1 (.slice (some ⟨w.heap.size + 1, 0, none⟩) 0 N) 0 []) := Lib.hid (own_made hb0 (Nat.le_refl _) (by unfold maxLen; omega))
  have HB0 : Hid (Below (w.heap.size + 1) wq (wq.alloc (Obj.cells (rep N (Value.int IntKind.u8 0)) 5))) := Lib.hid ((Below.refl _ _).alloc (by omega) _)
  clear hb0 hmk
  generalize wq.alloc (Obj.cells (rep N (Value.int IntKind.u8 0)) 5) = wz at *
  obtain ⟨G, hG⟩ : ∃ G, G = drawL R W H d l := ⟨_, rfl⟩
  have HGd := Lib.hid hG
  have HST : Hid (∀ x y, x < W → y < H → b8 (G.take (y * W + (x + 1))) = b8 (G.take (y * W + x)) ++ [.int .u8 ((if (R.getD y []).getD x false = true then d else l : Nat) : Int)]) := Lib.hid (fun x y hx hy => by rw [hG]; exact draw_step R W H d l x y hx hy)
  clear hG
  go_loopw [16, 17] (fun ov yv wr => ∃ y n : Nat, y ≤ H ∧ yv = .int .i64 y ∧ Hid (n = y * W) ∧ n ≤ 40000 ∧ Hid (wr.ownsRow (w.heap.size + 1) 5 1 ov n (b8 (G.take n))) ∧ Hid (Below (w.heap.size + 1) wq wr)) (fun _ yv _ => H - (intOf yv).toNat)
  case atStart => exact ⟨0, 0, Nat.zero_le _, rfl, Lib.hid (by simp), by omega, by simpa [b8] using HO0, HB0⟩
  case round =>
    clear HO0 HB0
    obtain ⟨y, n, hy, rfl, HNy, hn4, HO, HB⟩ := hrel
    by_cases hlt : y < H
    · obtain ⟨u, cu, hu⟩ := HR.out y hlt
      have hul := HRL.out y hlt
      obtain ⟨bb, oo, c, rfl, j3, j4, HC⟩ := row_at hu (by omega)
      rw [hul] at cu j3 HC
      have HCU := Lib.hid cu
      clear cu hu hul
      go_wp2_with fail
      go_loopw [16, 18] (fun ov xv wr => ∃ x m : Nat, x ≤ W ∧ xv = .int .i64 x ∧ m = n + x ∧ Hid (wr.ownsRow (w.heap.size + 1) 5 1 ov m (b8 (G.take m))) ∧ Hid (Below (w.heap.size + 1) wq wr)) (fun _ xv _ => W - (intOf xv).toNat)
      case atStart => exact ⟨0, n, Nat.zero_le _, rfl, rfl, HO, HB⟩
      case round =>
        rename World => wo
        clear HO HB
        obtain ⟨x, m, hx, rfl, hm, HO, HB⟩ := hrel
        by_cases hxl : x < W
        · have hbz := HBQ.out.trans (HB.out.mono (by omega : w.heap.size ≤ w.heap.size + 1))
          have r1 := cell_up HCU.out hbz
          have r2 := cell_up (HC.out x hxl) hbz
          have hbk := HBMq.out.below HB.out (by omega : w.heap.size < w.heap.size + 1)
          have m0 : wo.cell? ⟨w.heap.size, 0, none⟩ = some (.int .i64 0) := by rw [hbk.cell]; rfl
          have m2 : wo.cell? ⟨w.heap.size, 2, none⟩ = some (.int .i64 0) := by rw [hbk.cell]; rfl
          have hst := HST.out x y hxl hlt
          rw [← HNy.out, ← Nat.add_assoc, ← hm] at hst
          obtain ⟨q, hq⟩ : ∃ q, q = (R.getD y []).getD x false := ⟨_, rfl⟩
          rw [← hq] at hst r2
          have HS2 := Lib.hid hst
          have wx : IntKind.i64.wrap (x : Int) = (x : Int) := by rw [IntKind.wrap_i64]; omega
          have wy : IntKind.i64.wrap (y : Int) = (y : Int) := by rw [IntKind.wrap_i64]; omega
          clear hst hq hbk hbz
          go_wp2_with fail
          refine Can.wp_region_can (fun w' => w'.cell? ⟨w.heap.size, 0, none⟩ = some (.int .i64 0) ∧ w'.cell? ⟨w.heap.size, 2, none⟩ = some (.int .i64 0)) 999 [0, 1, 2, 3, 4, 5, 6, 7, 8, 9] (by kernel_rfl) (by kernel_rfl) (fun _ _ d _ _ h => by cases d <;> exact h) ⟨m0, m2⟩ (fun hHeld => ?_)
          repeat (refine Can.can_pure (v := ?_) rfl rfl (Or.inl ⟨by rfl, ?_⟩) ?_; rotate_left; (focus ((intro w hSw); (try dsimp only at hSw); go_simp; (try with_reducible rfl))); (try simp only [Act.put, List.getElem_toArray, List.getElem_cons_succ, List.getElem_cons_zero, List.setIfInBounds_toArray, List.set_cons_zero, List.set_cons_succ]))
          refine Can.can_done ?_
          have r3 := cell_up r1 (bdr (brf wo))
          have r4 := cell_up r2 (bdr (brf wo))
          have HB2 := Lib.hid (HB.out.drew)
          have HO2 : Hid (World.ownsRow wo.drew (w.heap.size + 1) 5 1 u16 m (b8 (G.take m))) := HO
          clear hHeld m0 m2 r1 r2 HB HO
          generalize World.drew wo = w2 at *
          have z1 : (0 : Int) ≤ (x : Int) := by omega
          have z2 : (0 : Int) ≤ (y : Int) := by omega
          go_wp2_with fail
          refine Can.wp_region_can (fun w' => w'.cell? ⟨b, o + y, none⟩ = some (.slice (some ⟨bb, oo, none⟩) W c) ∧ w'.cell? ⟨bb, oo + x, none⟩ = some (.bool q)) 999 [0, 1, 2, 3, 4, 5, 6, 7, 8, 9, 10, 11, 12, 13, 14, 15, 16, 17, 18, 19, 20, 21, 22, 23, 24, 25, 26, 27, 28, 29, 30, 31, 32, 33] (by kernel_rfl) (by kernel_rfl) (fun _ _ d _ _ h => by cases d <;> exact h) ⟨r3, r4⟩ (fun hHeld => ?_)
          repeat (first | (refine Can.can_pure (v := ?_) rfl rfl (Or.inl ⟨by rfl, ?_⟩) ?_; rotate_left; (focus ((intro w hSw); (try dsimp only at hSw); go_simp; (try with_reducible rfl))); (try simp only [Act.put, List.getElem_toArray, List.getElem_cons_succ, List.getElem_cons_zero, List.setIfInBounds_toArray, List.set_cons_zero, List.set_cons_succ])) | (refine Can.can_pure (v := undef) rfl rfl (Or.inr ⟨by rfl, rfl⟩) ?_; (try simp only [Act.put, List.getElem_toArray, List.getElem_cons_succ, List.getElem_cons_zero, List.setIfInBounds_toArray, List.set_cons_zero, List.set_cons_succ])))
          refine Can.can_done ?_
          have HB3 := Lib.hid (HB2.out.drew)
          have HO3 : Hid (World.ownsRow w2.drew (w.heap.size + 1) 5 1 u16 m (b8 (G.take m))) := HO2
          clear hHeld r3 r4 HB2 HO2
          generalize World.drew w2 = w3 at *
          have hw3 := HB3.out.size
          cases q
          · as_aux_lemma =>
              go_wp2_with (with_reducible refine stop_at (o := ⟨some 109, _, _, _, _, _⟩) ?_)
              refine Lib.hid ?_
              refine list_app_rd _ rfl _ _ 30 rfl (w.heap.size + 1) 5 i1 _ 1 Try.underlying30 hi1 hy0 hy1 hy2 rfl _ m (b8 (G.take m)) rfl (HO3.out.alloc _) _ _ [.int .u8 (l : Int)] rfl (Rd.one rfl _ _) (fun u hu => by simp at hu; subst hu; rfl) (by simp only [List.length_singleton]; unfold maxLen; omega) (by simp only [List.length_singleton]; omega) (by simp; omega) ?_
              intro v1 w4 ho1 hg1
              have HB4 := Lib.hid (below_grown (HB3.out.alloc (by omega) (.cells #[.int .u8 (l : Int)] 5)) hg1 (HO3.out.alloc _) (by simp; omega))
              have HO4 : Hid (w4.ownsRow (w.heap.size + 1) 5 1 v1 (m + 1) (b8 (G.take (m + 1)))) := Lib.hid (by rw [HS2.out]; exact ho1)
              clear ho1 hg1 HO3 HB3
              go_wp2
              go_roundw
              case rel => exact ⟨x + 1, m + 1, by omega, by go_num, by omega, HO4, HB4⟩
              case measure => simp [intOf]; omega
          · as_aux_lemma =>
              go_wp2_with (with_reducible refine stop_at (o := ⟨some 109, _, _, _, _, _⟩) ?_)
              refine Lib.hid ?_
              refine list_app_rd _ rfl _ _ 30 rfl (w.heap.size + 1) 5 i1 _ 1 Try.underlying30 hi1 hy0 hy1 hy2 rfl _ m (b8 (G.take m)) rfl (HO3.out.alloc _) _ _ [.int .u8 (d : Int)] rfl (Rd.one rfl _ _) (fun u hu => by simp at hu; subst hu; rfl) (by simp only [List.length_singleton]; unfold maxLen; omega) (by simp only [List.length_singleton]; omega) (by simp; omega) ?_
              intro v1 w4 ho1 hg1
              have HB4 := Lib.hid (below_grown (HB3.out.alloc (by omega) (.cells #[.int .u8 (d : Int)] 5)) hg1 (HO3.out.alloc _) (by simp; omega))
              have HO4 : Hid (w4.ownsRow (w.heap.size + 1) 5 1 v1 (m + 1) (b8 (G.take (m + 1)))) := Lib.hid (by rw [HS2.out]; exact ho1)
              clear ho1 hg1 HO3 HB3
              go_wp2
              go_roundw
              case rel => exact ⟨x + 1, m + 1, by omega, by go_num, by omega, HO4, HB4⟩
              case measure => simp [intOf]; omega
        · obtain rfl : x = W := by omega
          have hbnd : n + x ≤ 40000 := by
            have h1 := Nat.mul_le_mul_right x (show y + 1 ≤ H by omega)
            rw [Nat.add_mul, Nat.one_mul, ← HNy.out, Nat.mul_comm H x, ← HN.out] at h1
            omega
          have HN2 : Hid (n + x = (y + 1) * x) := Lib.hid (by rw [Nat.add_mul, Nat.one_mul, ← HNy.out])
          subst hm
          go_wp2
          go_roundw
          case rel => exact ⟨y + 1, n + x, by omega, by go_num, HN2, hbnd, HO, HB⟩
          case measure => simp [intOf]; omega
    · obtain rfl : y = H := by omega
      have hG2 : G.take n = drawL R W y d l := by rw [HGd.out]; exact List.take_of_length_le (by rw [drawL_len, HNy.out, Nat.mul_comm]; exact Nat.le_refl _)
      have HR2 : Hid (RdT wr 5 u16 (b8 (drawL R W y d l))) := Lib.hid (by rw [← hG2]; exact RdT.of_own HO.out)
      have HB2 := Lib.hid (HBQ.out.trans (HB.out.mono (by omega : w.heap.size ≤ w.heap.size + 1)))
      clear hG2 HO HB
      go_wp2
      go_returns
      exact ⟨_, rfl, HR2.out, HB2.out⟩
end Go.Proofs.Ytimfaplnhlnjlaa
