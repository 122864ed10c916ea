/-
  WALKS: spec.BIRows.
-/
import Derived.Test.YtimfaplnhlnjlaaRw
namespace Go.Proofs.Ytimfaplnhlnjlaa
open Go.RowKit

/-- Row y of rows W wide, of bits that go on and on. -/
def biRow (W : Nat) (l : List Bool) (y : Nat) : List Bool := (List.range W).map fun x => if l.length = 0 then false else l.getD ((y * W + x) % l.length) false
def biRows (W H : Nat) (l : List Bool) : List (List Bool) := (List.range H).map (biRow W l)
theorem biRow_len (W : Nat) (l : List Bool) (y : Nat) : (biRow W l y).length = W := by simp [biRow]
theorem biRows_len (W H : Nat) (l : List Bool) : (biRows W H l).length = H := by simp [biRows]
theorem biRow_at (W : Nat) (l : List Bool) (y x : Nat) (hx : x < W) : (biRow W l y).getD x false = if l.length = 0 then false else l.getD ((y * W + x) % l.length) false := by
  simp [biRow, List.getD, hx]
theorem biRows_at (W H : Nat) (l : List Bool) (y : Nat) (hy : y < H) : (biRows W H l).getD y [] = biRow W l y := by
  simp [biRows, List.getD, hy]
set_option maxRecDepth 100000 in
set_option maxHeartbeats 2000000 in
/-- spec.BIRows. -/
theorem biRows_any (W H : Nat) (v : Value) (l : List Bool) (w : World) (hv : Rd w w.heap.size v (bv l)) (hW : W ≤ 4096) (hH : H ≤ 4096) :
    Calls Try.prog 24 #[.int .i64 W, .int .i64 H, v] w fun e w' => ∃ v', e = .returned v' ∧ RowsT w' v' (biRows W H l) ∧ Below w.heap.size w w' := by
  obtain ⟨A, ca, rfl, ha1, ha2, ha3⟩ := hv
  simp only [bv_len] at *
  unfold maxLen at ha2
  have HA := Lib.hid ha3; clear ha3
  have hmk := fun a => mk_rows H a (by omega)
  have hmkb := fun a => mk_bools W a (by omega)
  go_enter Try.func24, Try.ntmps24
  go_wp2
  clear hmk
  go_loopw [8] (fun yv wr => ∃ (y : Nat) (vs : List Value), y ≤ H ∧ vs.length ≤ y ∧ y ≤ vs.length ∧ yv = .int .i64 y ∧ Hid (Blk wr w.heap.size 38 (padV vs H).toArray) ∧
    Hid (∀ i, i < y → RdT wr 4 (vs.getD i undef) (bv (biRow W l i))) ∧ Hid (Below w.heap.size w wr)) (fun yv _ => H - (intOf yv).toNat)
  case atStart => exact ⟨0, [], Nat.zero_le _, Nat.le_refl _, Nat.zero_le _, rfl, Lib.hid (by unfold padV; exact Blk.fresh w _ _), Lib.hid (fun i hi => absurd hi (Nat.not_lt_zero _)), Lib.hid (bal (brf w) _)⟩
  case round =>
    obtain ⟨y, vs, hy, hy1, hy2, rfl, HG, HR, HW⟩ := hrel
    by_cases hlt : y < H
    · obtain rfl : y = vs.length := by omega
      have HGa := HG.out.alloc (.cells (bv (List.replicate W false)).toArray 4)
      have cG : (wr.alloc (.cells (bv (List.replicate W false)).toArray 4)).cell? ⟨w.heap.size, vs.length, none⟩ = some (.slice none 0 0) := by
        rw [HGa.cell]; exact padV_at vs H hlt
      have fG : (wr.alloc (.cells (bv (List.replicate W false)).toArray 4)).frozen? ⟨w.heap.size, vs.length, none⟩ = false := HGa.frozen _
      have hglt := HG.out.lt
      -- the world behind the row's making
      obtain ⟨wm, hwm⟩ : ∃ wm, wm = (wr.setCell ⟨w.heap.size, vs.length, none⟩ (.slice (some ⟨wr.heap.size, 0, none⟩) W W)).alloc (.cells (bv (List.replicate W false)).toArray 4) := ⟨_, rfl⟩
      have HG1 : Hid (Blk wm w.heap.size 38 (padV (vs ++ [.slice (some ⟨wr.heap.size, 0, none⟩) W W]) H).toArray) := Lib.hid (by
        rw [hwm, ← padV_set _ _ _ hlt]; exact (HG.out.put _ _).alloc _)
      have HB1 : Hid (Blk wm wr.heap.size 4 (bv (fillA (biRow W l vs.length) false W 0)).toArray) := Lib.hid (by
        rw [hwm, fill_zero]; exact Blk.fresh' (by simp))
      have HR1 : Hid (∀ i, i < vs.length → RdB wm 4 wr.heap.size (vs.getD i undef) (bv (biRow W l i))) := Lib.hid (fun i hi => by
        rw [hwm]
        exact ((HR.out i hi).rdB.far (p := ⟨w.heap.size, vs.length, none⟩) HG.out (by decide) _).below ((Below.refl _ _).alloc (by simp) _))
      have HW1 : Hid (Below w.heap.size w wm) := Lib.hid (by
        rw [hwm]; exact bal (HW.out.setCell (p := ⟨w.heap.size, vs.length, none⟩) (Nat.le_refl _) _) _)
      have hsz : wr.heap.size < wm.heap.size := HB1.out.lt
      have HWM := Lib.hid hwm.symm; clear hwm HGa HG HR
      have hrl : (biRow W l vs.length).length = W := biRow_len _ _ _
      have hra := fun x hx => biRow_at W l vs.length x hx
      have hfin : ∀ wi, Blk wi wr.heap.size 4 (bv (biRow W l vs.length)).toArray → Below wr.heap.size wm wi →
          Blk wi w.heap.size 38 (padV (vs ++ [.slice (some ⟨wr.heap.size, 0, none⟩) W W]) H).toArray ∧
          (∀ i, i < vs.length + 1 → RdT wi 4 ((vs ++ [Value.slice (some ⟨wr.heap.size, 0, none⟩) W W]).getD i undef) (bv (biRow W l i))) ∧ Below w.heap.size w wi := fun wi h1 h2 => by
        refine ⟨HG1.out.below h2 hglt, fun i hi => ?_, HW1.out.trans (h2.mono HW.out.size)⟩
        rcases Nat.lt_or_ge i vs.length with hiv | hiv
        · rw [getD_snoc_lo _ _ _ _ hiv]
          exact ((HR1.out i hiv).below h2).rdT
        · obtain rfl : i = vs.length := by omega
          rw [getD_snoc]
          exact RdT.of_blk h1 (by rw [bv_len, biRow_len]) (by rw [bv_len, biRow_len]; exact Nat.le_refl _) (by unfold maxLen; omega)
      have HFin := Lib.hid hfin; clear hfin
      generalize biRow W l vs.length = row at *
      have HRA := Lib.hid hra; clear hra
      by_cases hl0 : 0 < l.length
      · obtain ⟨bl, ol, rfl, hbl, hcl⟩ := HA.out hl0
        have HCL := Lib.hid hcl; clear hcl
        go_wp2_with fail
        rw [HWM.out]
        go_loopw [9] (fun xv wi => ∃ (x : Nat), x ≤ W ∧ xv = .int .i64 x ∧ Hid (Blk wi wr.heap.size 4 (bv (fillA row false W x)).toArray) ∧ Hid (Below wr.heap.size wm wi)) (fun xv _ => W - (intOf xv).toNat)
        case atStart => exact ⟨0, Nat.zero_le _, rfl, HB1, Lib.hid (Below.refl _ _)⟩
        case round =>
          rename World => wi
          obtain ⟨x, hx, rfl, HBx, HWx⟩ := hrel
          by_cases hxl : x < W
          · have hrx := HRA.out x hxl
            rw [if_neg (by omega)] at hrx
            have hxr : x < row.length := by omega
            have hset := fill_set row false W x hxr (by omega)
            have hrx2 : row[x] = row.getD x false := by rw [List.getD, List.getElem?_eq_getElem hxr]; rfl
            rw [hrx2, hrx] at hset
            have hsz0 := HW.out.size
            have hkl : (vs.length * W + x) % l.length < l.length := Nat.mod_lt _ hl0
            have hcl0 := HCL.out ((vs.length * W + x) % l.length) _ (bv_at l _ hkl)
            have hgl : l.getD ((vs.length * W + x) % l.length) false = l[(vs.length * W + x) % l.length] := by rw [List.getD, List.getElem?_eq_getElem hkl]; rfl
            rw [hgl] at hset
            clear hgl hrx hrx2
            generalize l[(vs.length * W + x) % l.length] = bb at *
            have HWw := Lib.hid (HW1.out.trans (HWx.out.mono hsz0))
            have cB := cell_up hcl0 HWw.out
            clear hcl0
            have cG2 : wi.cell? ⟨w.heap.size, vs.length, none⟩ = some (.slice (some ⟨wr.heap.size, 0, none⟩) W W) := by
              rw [(HG1.out.below HWx.out hglt).cell]; exact padV_last _ _ _
            have cO : wi.cell? ⟨wr.heap.size, x, none⟩ = some (.bool false) := by
              rw [HBx.out.cell, List.getElem?_toArray]
              unfold bv
              rw [List.getElem?_map, fill_at_k row false W x hxl (by omega)]; rfl
            have fO : wi.frozen? ⟨wr.heap.size, x, none⟩ = false := HBx.out.frozen _
            have hmul : vs.length * W ≤ 4096 * 4096 := Nat.mul_le_mul (by omega) hW
            obtain ⟨M, hM⟩ : ∃ M, M = vs.length * W := ⟨_, rfl⟩
            rw [← hM] at hmul hkl cB
            have s1 : IntKind.i64.wrap ((vs.length : Int) * (W : Int)) = (M : Int) := by
              have : (vs.length : Int) * (W : Int) = (M : Int) := by rw [hM]; simp
              rw [this, IntKind.wrap_i64]; omega
            have s2 : IntKind.i64.wrap ((M : Int) + (x : Int)) = ((M + x : Nat) : Int) := by rw [IntKind.wrap_i64]; omega
            obtain ⟨T, hT⟩ : ∃ T, T = M + x := ⟨_, rfl⟩
            rw [← hT] at s2 hkl cB
            have s3 : (T : Int).tmod (l.length : Int) = ((T % l.length : Nat) : Int) := by
              rw [Int.tmod_eq_emod_of_nonneg (by omega)]; simp
            have s4 : IntKind.i64.wrap ((T % l.length : Nat) : Int) = ((T % l.length : Nat) : Int) := by rw [IntKind.wrap_i64]; omega
            generalize T % l.length = k at *
            have HN := Lib.hid (HBx.out.drew.put x (.bool bb))
            have HWn := Lib.hid (HWx.out.drew.setCell (p := ⟨wr.heap.size, x, none⟩) (Nat.le_refl _) (.bool bb))
            rw [bv_set, hset] at HN
            clear hset hT hM HWw
            have z0 : ((l.length : Int) == 0) = false := by simp; rintro rfl; simp at hl0
            have z1 : ¬ l = [] := by rintro rfl; simp at hl0
            go_wp2
            refine Can.wp_region_can (fun w' => w'.cell? ⟨w.heap.size, vs.length, none⟩ = some (.slice (some ⟨wr.heap.size, 0, none⟩) W W) ∧ w'.cell? ⟨bl, ol + k, none⟩ = some (.bool bb) ∧ w'.cell? ⟨wr.heap.size, x, none⟩ = some (.bool false) ∧ w'.frozen? ⟨wr.heap.size, x, none⟩ = false) 17 [0, 1, 2, 3, 4, 5, 6, 7, 8, 9, 10, 11, 12, 13, 14, 15, 16, 17] (by kernel_rfl) (by kernel_rfl) (fun _ _ d _ _ h => by cases d <;> exact h) ⟨cG2, cB, cO, fO⟩ (fun hHeld => ?_)
            repeat (refine Can.can_pure (v := ?_) rfl rfl (Or.inl ⟨by rfl, ?_⟩) ?_; rotate_left; (focus ((intro w hSw); (try dsimp only at hSw); go_simp; (try with_reducible rfl))); (try simp only [Act.put, List.getElem_toArray, List.getElem_cons_succ, List.getElem_cons_zero, List.setIfInBounds_toArray, List.set_cons_zero, List.set_cons_succ]))
            have f1 := hHeld.2.2.2
            have c3 := hHeld.2.2.1
            refine Can.can_tail rfl rfl (by rfl) (fun K hK => ?_)
            go_simp
            refine hK.out _ _ ?_
            clear hK K
            clear hHeld f1 c3 cG2 cB cO fO s1 s2 s3 s4
            go_wp2
            go_roundw
            case rel => exact ⟨x + 1, by omega, by go_num, HN, HWn⟩
            case measure => simp [intOf]; omega
          · obtain rfl : x = W := by omega
            have hB2 : Blk wi wr.heap.size 4 (bv row).toArray := by
              have := HBx.out
              have e := fill_full row false
              rw [hrl] at e
              rw [e] at this; exact this
            obtain ⟨q1, q2, q3⟩ := HFin.out wi hB2 HWx.out
            have HQ1 := Lib.hid q1; have HQ2 := Lib.hid q2; have HQ3 := Lib.hid q3
            clear q1 q2 q3 hB2
            go_wp2
            go_roundw
            case rel => exact ⟨vs.length + 1, _, by omega, by simp, by simp, by go_num, HQ1, HQ2, HQ3⟩
            case measure => simp [intOf]; omega
      · have hrow : row = List.replicate W false := by
          apply List.ext_getElem
          · rw [hrl, List.length_replicate]
          · intro i h1 h2
            have := HRA.out i (by omega)
            rw [if_pos (by omega), List.getD, List.getElem?_eq_getElem h1] at this
            rw [List.getElem_replicate]; exact this
        have hB2 : Blk wm wr.heap.size 4 (bv row).toArray := by
          have := HB1.out
          rw [fill_zero, ← hrow] at this; exact this
        obtain ⟨q1, q2, q3⟩ := HFin.out wm hB2 (Below.refl _ _)
        have HQ1 := Lib.hid q1; have HQ2 := Lib.hid q2; have HQ3 := Lib.hid q3
        clear q1 q2 q3 hB2 hrow
        have hl2 : ¬ (0 : Int) < (l.length : Int) := by omega
        have hl3 : decide (0 < l.length) = false := by simpa using hl0
        go_wp2_with fail
        rw [HWM.out]
        go_loopw [9] (fun xv wi => xv = .int .i64 0 ∧ wi = wm) (fun xv _ => 0)
        case atStart => exact ⟨rfl, rfl⟩
        case round =>
          rename World => wi
          obtain ⟨rfl, hwi⟩ := hrel
          subst hwi
          by_cases hW0 : 0 < W
          · go_wp2
            go_roundw
            case rel => exact ⟨vs.length + 1, _, by omega, by simp, by simp, by go_num, HQ1, HQ2, HQ3⟩
            case measure => simp [intOf]; omega
          · have hW1' : ¬ (0 : Int) < (W : Int) := by omega
            go_wp2
            go_roundw
            case rel => exact ⟨vs.length + 1, _, by omega, by simp, by simp, by go_num, HQ1, HQ2, HQ3⟩
            case measure => simp [intOf]; omega
    · obtain rfl : y = H := by omega
      have hvl : vs.length = y := by omega
      go_wp2
      go_ret
      refine ⟨_, rfl, ⟨vs, ?_, ?_, ?_⟩, HW.out⟩
      · have := HG.out
        rw [← hvl, padV_full] at this
        exact RdT.of_blk this (by omega) (by omega) (by unfold maxLen; omega)
      · rw [biRows_len]; exact hvl
      · intro i hi
        rw [biRows_len] at hi
        rw [biRows_at _ _ _ _ hi]
        exact HR.out i hi
end Go.Proofs.Ytimfaplnhlnjlaa
