/-
  WALK: spec.QRPatterns.
-/
import Derived.Test.YtcldipbboidjbaaQp4
import Derived.Test.YtcldipbboidjbaaRwo
import Derived.Test.YtcldipbboidjbaaQf2
import Derived.Test.YtcldipbboidjbaaRo0
import Derived.Test.YtcldipbboidjbaaCan
namespace Go.Proofs.Ytcldipbboidjbaa
open Go.RowKit

set_option maxRecDepth 100000 in
theorem cen_small : ∀ v, v ≤ 40 → (cenOf v).length ≤ 7 ∧ ∀ x ∈ cenOf v, x ≤ 180 := by decide +kernel
/-- What stands at a module of a pattern, where those that carry data are light. -/
def patB (v l m c r : Nat) : Bool := givenB v (17 + 4 * v) (cenOf v) r c && pattnB v (17 + 4 * v) (fmtT (l * 8 + m)) (cenOf v) r c
set_option maxRecDepth 100000 in
set_option maxHeartbeats 4000000 in
theorem patterns_any (v l m : Nat) (w0 : World) (h1 : 1 ≤ v) (h2 : v ≤ 40) (hl : l < 4) (hm : m < 8) :
    Calls Try.prog 20 #[.int .i64 v, .int .i64 l, .int .i64 m] w0 fun e w' => ∃ g bs, e = .returned (.slice (some ⟨g, 0, none⟩) (17 + 4 * v) (17 + 4 * v)) ∧ bs.length = 17 + 4 * v ∧ MkR w' g (17 + 4 * v) (17 + 4 * v) bs (patB v l m) ∧ w0.heap.size ≤ g ∧ Below w0.heap.size w0 w' := by
  have hDim := specDim_any v w0 h2
  have hFm := fmtBits_any l m w0 hl hm
  have hfm := fmtT_lt (l * 8 + m) (by omega)
  have hCe := specCen_any v w0 h1 h2
  obtain ⟨hcs, hcx⟩ := cen_small v h2
  have hpat : ∀ r c, patB v l m c r = (givenB v (17 + 4 * v) (cenOf v) r c && pattnB v (17 + 4 * v) (fmtT (l * 8 + m)) (cenOf v) r c) := fun r c => rfl
  have hnn : 17 + 4 * v = 17 + 4 * v := rfl
  generalize hN : 17 + 4 * v = n at *
  generalize fmtT (l * 8 + m) = fm at *
  generalize cenOf v = cs at *
  generalize patB v l m = F at *
  have HPAT := Lib.hid hpat; clear hpat hnn
  have HCX := Lib.hid hcx; clear hcx
  have HN := Lib.hid hN.symm
  have hn177 : n ≤ 177 := by omega
  clear hN
  have hmk := fun a => mk_rows n a (by omega)
  have hmkb := fun a => mk_bools n a (by omega)
  go_enter Try.func20, Try.ntmps20
  go_wp2_with fail
  refine hDim.mono ?_
  rintro e w ⟨rfl, rfl⟩
  go_wp2_with fail
  refine hFm.mono ?_
  rintro e w ⟨rfl, rfl⟩
  go_wp2_with fail
  refine hCe.mono ?_
  rintro e w1 ⟨s, rfl, hs, hw1⟩
  have HS := Lib.hid hs
  have HW1 := Lib.hid hw1
  clear hs hw1 hDim hFm hCe
  go_wp2_with fail
  clear hmk
  go_loopw [24] (fun yv wr => ∃ (y : Nat) (bs : List Nat), y ≤ n ∧ bs.length ≤ y ∧ y ≤ bs.length ∧ yv = .int .i64 y ∧ Hid (MkR wr w1.heap.size n n bs F) ∧ Hid (Below w1.heap.size w1 wr)) (fun yv _ => n - (intOf yv).toNat)
  case atStart => exact ⟨0, [], Nat.zero_le _, Nat.le_refl _, Nat.zero_le _, rfl, Lib.hid (MkR.begin_ w1 n n F), Lib.hid (bal (brf w1) _)⟩
  case round =>
    obtain ⟨y, vs, hy, hy1, hy2, rfl, HG, HW⟩ := hrel
    by_cases hlt : y < n
    · obtain rfl : y = vs.length := by omega
      have HGa := HG.out.out.alloc (.cells (bv (List.replicate n false)).toArray 4)
      have cG : (wr.alloc (.cells (bv (List.replicate n false)).toArray 4)).cell? ⟨w1.heap.size, vs.length, none⟩ = some (.slice none 0 0) := cell_up (HG.out.ahead hlt) (bal (brf _) _)
      have fG : (wr.alloc (.cells (bv (List.replicate n false)).toArray 4)).frozen? ⟨w1.heap.size, vs.length, none⟩ = false := HGa.frozen _
      have hglt := HG.out.out.lt
      -- the world behind the row's making
      obtain ⟨wm, hwm⟩ : ∃ wm, wm = (wr.setCell ⟨w1.heap.size, vs.length, none⟩ (.slice (some ⟨wr.heap.size, 0, none⟩) n n)).alloc (.cells (bv (List.replicate n false)).toArray 4) := ⟨_, rfl⟩
      obtain ⟨HG1, hB1, hnx⟩ := HG.out.next hlt _ hwm
      rw [← fill_zero (rowF n F vs.length) false n] at hB1
      have HB1 := Lib.hid hB1; have HNX := Lib.hid hnx
      have HG1 := Lib.hid HG1
      clear hB1 hnx
      have HW2 : Hid (Below w1.heap.size w1 wm) := Lib.hid (by
        rw [hwm]; exact bal (HW.out.setCell (p := ⟨w1.heap.size, vs.length, none⟩) (Nat.le_refl _) _) _)
      have hsz : wr.heap.size < wm.heap.size := HB1.out.lt
      have HWM := Lib.hid hwm.symm; clear hwm HGa HG
      have hrl : (rowF n F vs.length).length = n := rowF_len _ _ _
      have hra : ∀ x (hx : x < (rowF n F vs.length).length), (rowF n F vs.length)[x] = F x vs.length := fun x hx => rowF_at n F vs.length x hx
      have hfin : ∀ wi, Blk wi wr.heap.size 4 (bv (rowF n F vs.length)).toArray → Below wr.heap.size wm wi →
          MkR wi w1.heap.size n n (vs ++ [wr.heap.size]) F ∧ Below w1.heap.size w1 wi := fun wi h1 h2 => ⟨HNX.out wi h1 h2, HW2.out.trans (h2.mono HW.out.size)⟩
      have HFin := Lib.hid hfin; clear hfin HNX
      generalize rowF n F vs.length = row at *
      have HRA := Lib.hid hra; clear hra
      have cG2 : wm.cell? ⟨w1.heap.size, vs.length, none⟩ = some (.slice (some ⟨wr.heap.size, 0, none⟩) n n) := by
        exact MkR.last HG1.out
      go_wp2_with (with_reducible refine stop_at (o := ⟨some 35, _, _, _, _, _⟩) ?_)
      refine Lib.hid ?_
      rw [HWM.out]
      clear cG fG
      go_wp2_with fail
      clear cG2
      go_loopw [37] (fun xv wi => ∃ (x : Nat), x ≤ n ∧ xv = .int .i64 x ∧ Hid (Blk wi wr.heap.size 4 (bv (fillA row false n x)).toArray) ∧ Hid (Below wr.heap.size wm wi)) (fun xv _ => n - (intOf xv).toNat)
      case atStart => exact ⟨0, Nat.zero_le _, rfl, HB1, Lib.hid (Below.refl _ _)⟩
      case round =>
        rename World => wi
        obtain ⟨x, hx, rfl, HBx, HWx⟩ := hrel
        by_cases hxl : x < n
        · have hrx := HRA.out x (by omega)
          rw [HPAT.out] at hrx
          have hxr : x < row.length := by omega
          have hset := fill_set row false n x hxr (by omega)
          have hsz0 := HW.out.size
          have HWw := Lib.hid (HW2.out.trans (HWx.out.mono hsz0))
          have hS : Rd wi.drew w1.heap.size s (nvl cs) := HS.out.rd.below (bdr HWw.out)
          have hGv := given_any s cs v n vs.length x w1.heap.size wi.drew hS hcs HCX.out HN.out h1 h2 hlt hxl
          have hPt := fun hg => pattern_any s cs v n fm vs.length x w1.heap.size wi.drew hS hcs HCX.out HN.out h1 h2 hlt hxl hfm hg
          have hgd : givenB v n cs vs.length x = true → givenP v n cs vs.length x := fun h => of_decide_eq_true h
          have HGD := Lib.hid hgd
          clear hS hgd
          rw [hrx] at hset
          clear hrx
          have cG2 : wi.cell? ⟨w1.heap.size, vs.length, none⟩ = some (.slice (some ⟨wr.heap.size, 0, none⟩) n n) := by
            exact MkR.last (HG1.out.below HWx.out hglt)
          have cO : wi.cell? ⟨wr.heap.size, x, none⟩ = some (.bool false) := by
            rw [HBx.out.cell, List.getElem?_toArray]
            unfold bv
            rw [List.getElem?_map, fill_at_k row false n x hxl (by omega)]; rfl
          have fO : wi.frozen? ⟨wr.heap.size, x, none⟩ = false := HBx.out.frozen _
          generalize hgb : givenB v n cs vs.length x = gb at *
          generalize pattnB v n fm cs vs.length x = pb at *
          have HN2 := Lib.hid (HBx.out.drew.put x (.bool (gb && pb)))
          have HWn := Lib.hid (HWx.out.drew.setCell (p := ⟨wr.heap.size, x, none⟩) (Nat.le_refl _) (.bool (gb && pb)))
          rw [bv_set, hset] at HN2
          clear hset hgb
          go_wp2_with fail
          cases gb
          · refine Can.wp_region_can (fun w' => w'.cell? ⟨w1.heap.size, vs.length, none⟩ = some (.slice (some ⟨wr.heap.size, 0, none⟩) n n) ∧ w'.cell? ⟨wr.heap.size, x, none⟩ = some (.bool false) ∧ w'.frozen? ⟨wr.heap.size, x, none⟩ = false) 19 [0, 1, 2, 3, 4, 5, 6, 7, 8, 18, 9, 10, 11, 12, 13, 14, 15, 16, 17, 19] (by kernel_rfl) (by kernel_rfl) (fun _ _ d _ _ h => by cases d <;> exact h) ⟨cG2, cO, fO⟩ (fun hHeld => ?_)
            repeat (refine Can.can_pure (v := ?_) rfl rfl (Or.inl ⟨by rfl, ?_⟩) ?_; rotate_left; (focus ((intro w hSw); (try dsimp only at hSw); go_simp; (try with_reducible rfl))); (try simp only [Act.put, List.getElem_toArray, List.getElem_cons_succ, List.getElem_cons_zero, List.setIfInBounds_toArray, List.set_cons_zero, List.set_cons_succ]))
            refine Can.can_eff rfl rfl (by rfl) (fun K hK => ?_)
            go_simp
            refine (hGv).mono ?_
            rintro e w5 ⟨rfl, rfl⟩
            refine hK.out _ _ hHeld (fun hHeld1 => ?_)
            clear hK K
            (try simp only [Act.put, List.getElem_toArray, List.getElem_cons_succ, List.getElem_cons_zero, List.setIfInBounds_toArray, List.set_cons_zero, List.set_cons_succ])
            repeat (first | (refine Can.can_pure (v := ?_) rfl rfl (Or.inl ⟨by rfl, ?_⟩) ?_; rotate_left; (focus ((intro w hSw); (try dsimp only at hSw); go_simp; (try with_reducible rfl))); (try simp only [Act.put, List.getElem_toArray, List.getElem_cons_succ, List.getElem_cons_zero, List.setIfInBounds_toArray, List.set_cons_zero, List.set_cons_succ])) | (refine Can.can_pure (v := undef) rfl rfl (Or.inr ⟨by rfl, rfl⟩) ?_; (try simp only [Act.put, List.getElem_toArray, List.getElem_cons_succ, List.getElem_cons_zero, List.setIfInBounds_toArray, List.set_cons_zero, List.set_cons_succ])))
            refine Can.can_skip rfl (by rfl) hHeld1 ?_
            repeat (first | (refine Can.can_pure (v := ?_) rfl rfl (Or.inl ⟨by rfl, ?_⟩) ?_; rotate_left; (focus ((intro w hSw); (try dsimp only at hSw); go_simp; (try with_reducible rfl))); (try simp only [Act.put, List.getElem_toArray, List.getElem_cons_succ, List.getElem_cons_zero, List.setIfInBounds_toArray, List.set_cons_zero, List.set_cons_succ])) | (refine Can.can_pure (v := undef) rfl rfl (Or.inr ⟨by rfl, rfl⟩) ?_; (try simp only [Act.put, List.getElem_toArray, List.getElem_cons_succ, List.getElem_cons_zero, List.setIfInBounds_toArray, List.set_cons_zero, List.set_cons_succ])))
            have f1 := hHeld1.2.2
            have c3 := hHeld1.2.1
            refine Can.can_tail rfl rfl (by rfl) (fun K hK => ?_)
            go_simp
            refine hK.out _ _ ?_
            clear hK K
            clear hHeld hHeld1 f1 c3 cG2 cO fO hPt hGv
            go_wp2_with fail
            go_roundw
            case rel => exact ⟨x + 1, by omega, by go_num, HN2, HWn⟩
            case measure => simp [intOf]; omega
          · refine Can.wp_region_can (fun w' => w'.cell? ⟨w1.heap.size, vs.length, none⟩ = some (.slice (some ⟨wr.heap.size, 0, none⟩) n n) ∧ w'.cell? ⟨wr.heap.size, x, none⟩ = some (.bool false) ∧ w'.frozen? ⟨wr.heap.size, x, none⟩ = false) 19 [0, 1, 2, 3, 4, 5, 6, 7, 8, 18, 9, 10, 11, 12, 13, 14, 15, 16, 17, 19] (by kernel_rfl) (by kernel_rfl) (fun _ _ d _ _ h => by cases d <;> exact h) ⟨cG2, cO, fO⟩ (fun hHeld => ?_)
            repeat (refine Can.can_pure (v := ?_) rfl rfl (Or.inl ⟨by rfl, ?_⟩) ?_; rotate_left; (focus ((intro w hSw); (try dsimp only at hSw); go_simp; (try with_reducible rfl))); (try simp only [Act.put, List.getElem_toArray, List.getElem_cons_succ, List.getElem_cons_zero, List.setIfInBounds_toArray, List.set_cons_zero, List.set_cons_succ]))
            refine Can.can_eff rfl rfl (by rfl) (fun K hK => ?_)
            go_simp
            refine (hGv).mono ?_
            rintro e w5 ⟨rfl, rfl⟩
            refine hK.out _ _ hHeld (fun hHeld1 => ?_)
            clear hK K
            (try simp only [Act.put, List.getElem_toArray, List.getElem_cons_succ, List.getElem_cons_zero, List.setIfInBounds_toArray, List.set_cons_zero, List.set_cons_succ])
            repeat (refine Can.can_pure (v := ?_) rfl rfl (Or.inl ⟨by rfl, ?_⟩) ?_; rotate_left; (focus ((intro w hSw); (try dsimp only at hSw); go_simp; (try with_reducible rfl))); (try simp only [Act.put, List.getElem_toArray, List.getElem_cons_succ, List.getElem_cons_zero, List.setIfInBounds_toArray, List.set_cons_zero, List.set_cons_succ]))
            refine Can.can_eff rfl rfl (by rfl) (fun K hK => ?_)
            go_simp
            refine (hPt (HGD.out rfl)).mono ?_
            rintro e w6 ⟨rfl, rfl⟩
            refine hK.out _ _ hHeld1 (fun hHeld2 => ?_)
            clear hK K
            (try simp only [Act.put, List.getElem_toArray, List.getElem_cons_succ, List.getElem_cons_zero, List.setIfInBounds_toArray, List.set_cons_zero, List.set_cons_succ])
            repeat (refine Can.can_pure (v := ?_) rfl rfl (Or.inl ⟨by rfl, ?_⟩) ?_; rotate_left; (focus ((intro w hSw); (try dsimp only at hSw); go_simp; (try with_reducible rfl))); (try simp only [Act.put, List.getElem_toArray, List.getElem_cons_succ, List.getElem_cons_zero, List.setIfInBounds_toArray, List.set_cons_zero, List.set_cons_succ]))
            have f1 := hHeld2.2.2
            have c3 := hHeld2.2.1
            refine Can.can_tail rfl rfl (by rfl) (fun K hK => ?_)
            go_simp
            refine hK.out _ _ ?_
            clear hK K
            clear hHeld hHeld1 hHeld2 f1 c3 cG2 cO fO hPt hGv
            go_wp2_with fail
            go_roundw
            case rel => exact ⟨x + 1, by omega, by go_num, HN2, HWn⟩
            case measure => simp [intOf]; omega
        · obtain rfl : x = n := by omega
          have hB2 : Blk wi wr.heap.size 4 (bv row).toArray := by
            have := HBx.out
            have e := fill_full row false
            rw [hrl] at e
            rw [e] at this; exact this
          obtain ⟨q1, q2⟩ := HFin.out wi hB2 HWx.out
          have HQ1 := Lib.hid q1; have HQ2 := Lib.hid q2
          clear q1 q2 hB2
          go_wp2_with fail
          go_roundw
          case rel => exact ⟨vs.length + 1, _, by omega, by simp, by simp, by go_num, HQ1, HQ2⟩
          case measure => simp [intOf]; omega
    · obtain rfl : y = n := by omega
      have hvl : vs.length = y := by omega
      go_wp2_with fail
      go_ret
      refine ⟨w1.heap.size, vs, rfl, hvl, HG.out, HW1.out.size, HW1.out.trans (HW.out.mono HW1.out.size)⟩
end Go.Proofs.Ytcldipbboidjbaa
