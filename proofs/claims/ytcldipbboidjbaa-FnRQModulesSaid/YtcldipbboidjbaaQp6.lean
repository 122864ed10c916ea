/-
  WALK: spec.QRGiven.
-/
import Derived.Test.YtcldipbboidjbaaQp5
namespace Go.Proofs.Ytcldipbboidjbaa
open Go.RowKit

/-- A module (column, row) belongs to a pattern of a version. -/
def givB (v c r : Nat) : Bool := givenB v (17 + 4 * v) (cenOf v) r c
set_option maxRecDepth 100000 in
set_option maxHeartbeats 4000000 in
theorem given_rows (v : Nat) (w0 : World) (h1 : 1 ≤ v) (h2 : v ≤ 40) :
    Calls Try.prog 41 #[.int .i64 v] w0 fun e w' => ∃ v', e = .returned v' ∧ RowsT w' v' (rowsF (17 + 4 * v) (17 + 4 * v) (givB v)) ∧ Below w0.heap.size w0 w' := by
  have hDim := specDim_any v w0 h2
  have hCe := specCen_any v w0 h1 h2
  obtain ⟨hcs, hcx⟩ := cen_small v h2
  have hpat : ∀ r c, givB v c r = givenB v (17 + 4 * v) (cenOf v) r c := fun r c => rfl
  have hnn : 17 + 4 * v = 17 + 4 * v := rfl
  generalize hN : 17 + 4 * v = n at *
  generalize cenOf v = cs at *
  generalize givB v = F at *
  have HPAT := Lib.hid hpat; clear hpat hnn
  have HCX := Lib.hid hcx; clear hcx
  have HN := Lib.hid hN.symm
  have hn177 : n ≤ 177 := by omega
  clear hN
  have hmk := fun a => mk_rows n a (by omega)
  have hmkb := fun a => mk_bools n a (by omega)
  go_enter Try.func41, Try.ntmps41
  go_wp2_with fail
  refine hDim.mono ?_
  rintro e w ⟨rfl, rfl⟩
  go_wp2_with fail
  refine hCe.mono ?_
  rintro e w1 ⟨s, rfl, hs, hw1⟩
  have HS := Lib.hid hs
  have HW1 := Lib.hid hw1
  clear hs hw1 hDim hCe
  go_wp2_with fail
  clear hmk
  go_loopw [16] (fun yv wr => ∃ (y : Nat) (vs : List Value), y ≤ n ∧ vs.length ≤ y ∧ y ≤ vs.length ∧ yv = .int .i64 y ∧ Hid (Blk wr w1.heap.size 29 (padV vs n).toArray) ∧
    Hid (∀ i, i < y → RdT wr 4 (vs.getD i undef) (bv (rowF n F i))) ∧ Hid (Below w1.heap.size w1 wr)) (fun yv _ => n - (intOf yv).toNat)
  case atStart => exact ⟨0, [], Nat.zero_le _, Nat.le_refl _, Nat.zero_le _, rfl, Lib.hid (by unfold padV; exact Blk.fresh w1 _ _), Lib.hid (fun i hi => absurd hi (Nat.not_lt_zero _)), Lib.hid (bal (brf w1) _)⟩
  case round =>
    obtain ⟨y, vs, hy, hy1, hy2, rfl, HG, HR, HW⟩ := hrel
    by_cases hlt : y < n
    · obtain rfl : y = vs.length := by omega
      have HGa := HG.out.alloc (.cells (bv (List.replicate n false)).toArray 4)
      have cG : (wr.alloc (.cells (bv (List.replicate n false)).toArray 4)).cell? ⟨w1.heap.size, vs.length, none⟩ = some (.slice none 0 0) := by
        rw [HGa.cell]; exact padV_at vs n hlt
      have fG : (wr.alloc (.cells (bv (List.replicate n false)).toArray 4)).frozen? ⟨w1.heap.size, vs.length, none⟩ = false := HGa.frozen _
      have hglt := HG.out.lt
      -- the world behind the row's making
      obtain ⟨wm, hwm⟩ : ∃ wm, wm = (wr.setCell ⟨w1.heap.size, vs.length, none⟩ (.slice (some ⟨wr.heap.size, 0, none⟩) n n)).alloc (.cells (bv (List.replicate n false)).toArray 4) := ⟨_, rfl⟩
      have HG1 : Hid (Blk wm w1.heap.size 29 (padV (vs ++ [.slice (some ⟨wr.heap.size, 0, none⟩) n n]) n).toArray) := Lib.hid (by
        rw [hwm, ← padV_set _ _ _ hlt]; exact (HG.out.put _ _).alloc _)
      have HB1 : Hid (Blk wm wr.heap.size 4 (bv (fillA (rowF n F vs.length) false n 0)).toArray) := Lib.hid (by
        rw [hwm, fill_zero]; exact Blk.fresh' (by simp))
      have HR1 : Hid (∀ i, i < vs.length → RdB wm 4 wr.heap.size (vs.getD i undef) (bv (rowF n F i))) := Lib.hid (fun i hi => by
        rw [hwm]
        exact ((HR.out i hi).rdB.far (p := ⟨w1.heap.size, vs.length, none⟩) HG.out (by decide) _).below ((Below.refl _ _).alloc (by simp) _))
      have HW2 : Hid (Below w1.heap.size w1 wm) := Lib.hid (by
        rw [hwm]; exact bal (HW.out.setCell (p := ⟨w1.heap.size, vs.length, none⟩) (Nat.le_refl _) _) _)
      have hsz : wr.heap.size < wm.heap.size := HB1.out.lt
      have HWM := Lib.hid hwm.symm; clear hwm HGa HG HR
      have hrl : (rowF n F vs.length).length = n := rowF_len _ _ _
      have hra : ∀ x (hx : x < (rowF n F vs.length).length), (rowF n F vs.length)[x] = F x vs.length := fun x hx => rowF_at n F vs.length x hx
      have hfin : ∀ wi, Blk wi wr.heap.size 4 (bv (rowF n F vs.length)).toArray → Below wr.heap.size wm wi →
          Blk wi w1.heap.size 29 (padV (vs ++ [.slice (some ⟨wr.heap.size, 0, none⟩) n n]) n).toArray ∧
          (∀ i, i < vs.length + 1 → RdT wi 4 ((vs ++ [Value.slice (some ⟨wr.heap.size, 0, none⟩) n n]).getD i undef) (bv (rowF n F i))) ∧ Below w1.heap.size w1 wi := fun wi h1 h2 => by
        refine ⟨HG1.out.below h2 hglt, fun i hi => ?_, HW2.out.trans (h2.mono HW.out.size)⟩
        rcases Nat.lt_or_ge i vs.length with hiv | hiv
        · rw [getD_snoc_lo _ _ _ _ hiv]
          exact ((HR1.out i hiv).below h2).rdT
        · obtain rfl : i = vs.length := by omega
          rw [getD_snoc]
          exact RdT.of_blk h1 (by rw [bv_len, rowF_len]) (by rw [bv_len, rowF_len]; exact Nat.le_refl _) (by unfold maxLen; omega)
      have HFin := Lib.hid hfin; clear hfin
      generalize rowF n F vs.length = row at *
      have HRA := Lib.hid hra; clear hra
      have cG2 : wm.cell? ⟨w1.heap.size, vs.length, none⟩ = some (.slice (some ⟨wr.heap.size, 0, none⟩) n n) := by
        rw [HG1.out.cell]; exact padV_last _ _ _
      go_wp2_with (with_reducible refine stop_at (o := ⟨some 27, _, _, _, _, _⟩) ?_)
      refine Lib.hid ?_
      rw [HWM.out]
      clear cG fG
      go_wp2_with fail
      clear cG2
      go_loopw [29] (fun xv wi => ∃ (x : Nat), x ≤ n ∧ xv = .int .i64 x ∧ Hid (Blk wi wr.heap.size 4 (bv (fillA row false n x)).toArray) ∧ Hid (Below wr.heap.size wm wi)) (fun xv _ => n - (intOf xv).toNat)
      case atStart => exact ⟨0, Nat.zero_le _, rfl, HB1, Lib.hid (Below.refl _ _)⟩
      case round =>
        rename World => wi
        obtain ⟨x, hx, rfl, HBx, HWx⟩ := hrel
        by_cases hxl : x < n
        · have hrx := HRA.out x (by omega)
          rw [HPAT.out] at hrx
          have hxr : x < row.length := by omega
          have hset := fill_set row false n x hxr (by omega)
          have hsz0 := HW.out.size
          have HWw := Lib.hid (HW2.out.trans (HWx.out.mono hsz0))
          have hS : Rd wi.drew w1.heap.size s (nvl cs) := HS.out.rd.below (bdr HWw.out)
          have hGv := given_any s cs v n vs.length x w1.heap.size wi.drew hS hcs HCX.out HN.out h1 h2 hlt hxl
          clear hS
          rw [hrx] at hset
          clear hrx
          have cG2 : wi.cell? ⟨w1.heap.size, vs.length, none⟩ = some (.slice (some ⟨wr.heap.size, 0, none⟩) n n) := by
            rw [(HG1.out.below HWx.out hglt).cell]; exact padV_last _ _ _
          have cO : wi.cell? ⟨wr.heap.size, x, none⟩ = some (.bool false) := by
            rw [HBx.out.cell, List.getElem?_toArray]
            unfold bv
            rw [List.getElem?_map, fill_at_k row false n x hxl (by omega)]; rfl
          have fO : wi.frozen? ⟨wr.heap.size, x, none⟩ = false := HBx.out.frozen _
          generalize givenB v n cs vs.length x = gb at *
          have HN2 := Lib.hid (HBx.out.drew.put x (.bool gb))
          have HWn := Lib.hid (HWx.out.drew.setCell (p := ⟨wr.heap.size, x, none⟩) (Nat.le_refl _) (.bool gb))
          rw [bv_set, hset] at HN2
          clear hset
          go_wp2_with fail
          refine Can.wp_region_can (fun w' => w'.cell? ⟨w1.heap.size, vs.length, none⟩ = some (.slice (some ⟨wr.heap.size, 0, none⟩) n n) ∧ w'.cell? ⟨wr.heap.size, x, none⟩ = some (.bool false) ∧ w'.frozen? ⟨wr.heap.size, x, none⟩ = false) 11 [0, 1, 2, 3, 4, 5, 6, 7, 8, 10, 9, 11] (by kernel_rfl) (by kernel_rfl) (fun _ _ d _ _ h => by cases d <;> exact h) ⟨cG2, cO, fO⟩ (fun hHeld => ?_)
          repeat (refine Can.can_pure (v := ?_) rfl rfl (Or.inl ⟨by rfl, ?_⟩) ?_; rotate_left; (focus ((intro w hSw); (try dsimp only at hSw); go_simp; (try with_reducible rfl))); (try simp only [Act.put, List.getElem_toArray, List.getElem_cons_succ, List.getElem_cons_zero, List.setIfInBounds_toArray, List.set_cons_zero, List.set_cons_succ]))
          refine Can.can_eff rfl rfl (by rfl) (fun K hK => ?_)
          go_simp
          refine (hGv).mono ?_
          rintro e w5 ⟨rfl, rfl⟩
          refine hK.out _ _ hHeld (fun hHeld1 => ?_)
          clear hK K
          (try simp only [Act.put, List.getElem_toArray, List.getElem_cons_succ, List.getElem_cons_zero, List.setIfInBounds_toArray, List.set_cons_zero, List.set_cons_succ])
          repeat (refine Can.can_pure (v := ?_) rfl rfl (Or.inl ⟨by rfl, ?_⟩) ?_; rotate_left; (focus ((intro w hSw); (try dsimp only at hSw); go_simp; (try with_reducible rfl))); (try simp only [Act.put, List.getElem_toArray, List.getElem_cons_succ, List.getElem_cons_zero, List.setIfInBounds_toArray, List.set_cons_zero, List.set_cons_succ]))
          have f1 := hHeld1.2.2
          have c3 := hHeld1.2.1
          refine Can.can_tail rfl rfl (by rfl) (fun K hK => ?_)
          go_simp
          refine hK.out _ _ ?_
          clear hK K
          clear hHeld hHeld1 f1 c3 cG2 cO fO hGv
          go_wp2_with fail
          go_roundw
          case rel => exact ⟨x + 1, by omega, by go_num, HN2, HWn⟩
          case measure => simp [intOf]; omega
        · obtain rfl : x = n := by omega
          have hB2 : Blk wi wr.heap.size 4 (bv row).toArray := by
            have := HBx.out
            have e := fill_full row false
            rw [hrl] at e
            rw [e] at this; exact this
          obtain ⟨q1, q2, q3⟩ := HFin.out wi hB2 HWx.out
          have HQ1 := Lib.hid q1; have HQ2 := Lib.hid q2; have HQ3 := Lib.hid q3
          clear q1 q2 q3 hB2
          go_wp2_with fail
          go_roundw
          case rel => exact ⟨vs.length + 1, _, by omega, by simp, by simp, by go_num, HQ1, HQ2, HQ3⟩
          case measure => simp [intOf]; omega
    · obtain rfl : y = n := by omega
      have hvl : vs.length = y := by omega
      go_wp2_with fail
      go_ret
      refine ⟨_, rfl, ⟨vs, ?_, ?_, ?_⟩, HW1.out.trans (HW.out.mono HW1.out.size)⟩
      · have := HG.out
        rw [← hvl, padV_full] at this
        exact RdT.of_blk this (by omega) (by omega) (by unfold maxLen; omega)
      · rw [rowsF_len]; exact hvl
      · intro i hi
        rw [rowsF_len] at hi
        rw [rowsF_at _ _ _ _ hi]
        exact HR.out i hi
end Go.Proofs.Ytcldipbboidjbaa
