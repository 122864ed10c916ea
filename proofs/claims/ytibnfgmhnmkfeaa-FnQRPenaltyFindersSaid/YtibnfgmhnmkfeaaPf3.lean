/-
  WALK: laws.qrTurned: rows as columns. Four light modules: laws.qrLight, encoder.isWhiteHorizontal, encoder.isWhiteVertical.
-/
import Derived.Test.YtibnfgmhnmkfeaaPf2
namespace Go.Proofs.Ytibnfgmhnmkfeaa
open Go.RowKit

set_option maxRecDepth 100000 in
set_option maxHeartbeats 2000000 in
theorem turned_any (v : Value) (f : Nat → Nat → Bool) (n : Nat) (w : World) (hv : RowsT w v (rowsF n n f)) (h0 : 0 < n) (hs : n ≤ 60) :
    Calls Try.prog 12 #[v] w fun e w' => ∃ v', e = .returned v' ∧ RowsT w' v' (rowsF n n (fun c r => f r c)) ∧ Below w.heap.size w w' := by
  obtain ⟨b, o, c1, rfl, m1, m2, HC⟩ := hv.at_ (by rw [rowsF_len]; exact h0)
  rw [rowsF_len] at m1 HC ⊢
  clear hv
  have hmk := fun a => mk_rows n a (by omega)
  have hmkb := fun a => mk_bools n a (by omega)
  go_enter Try.func12, Try.ntmps12
  go_wp2_with fail
  have HG0 : Hid (Blk (w.alloc (Obj.cells (Array.replicate n (Value.slice none 0 0)) 36)) w.heap.size 36 (padV [] n).toArray) := Lib.hid (by
    have e : (padV [] n).toArray = Array.replicate n (Value.slice none 0 0) := by simp [padV]
    rw [e]; exact Blk.fresh w _ _)
  have HW0 := Lib.hid (bal (brf w) (Obj.cells (Array.replicate n (Value.slice none 0 0)) 36))
  clear hmk
  go_loopw [11] (fun yv wr => ∃ (y : Nat) (vs : List Value), y ≤ n ∧ vs.length = y ∧ yv = .int .i64 y ∧ Hid (Blk wr w.heap.size 36 (padV vs n).toArray) ∧ Hid (∀ i, i < vs.length → RdT wr 4 (vs.getD i undef) (bv (rowF n (fun c r => f r c) i))) ∧ Hid (Below w.heap.size w wr)) (fun yv _ => n - (intOf yv).toNat)
  case atStart => exact ⟨0, [], Nat.zero_le _, rfl, rfl, HG0, Lib.hid (fun i hi => absurd hi (Nat.not_lt_zero _)), HW0⟩
  case round =>
    clear HG0 HW0
    obtain ⟨y, vs, hy, hvl, rfl, HG, HR, HW⟩ := hrel
    by_cases hlt : y < n
    · subst hvl
      have HGa := HG.out.alloc (.cells (bv (List.replicate n false)).toArray 4)
      have cG : (wr.alloc (.cells (bv (List.replicate n false)).toArray 4)).cell? ⟨w.heap.size, vs.length, none⟩ = some (.slice none 0 0) := by
        rw [HGa.cell]; exact padV_at vs n hlt
      have fG : (wr.alloc (.cells (bv (List.replicate n false)).toArray 4)).frozen? ⟨w.heap.size, vs.length, none⟩ = false := HGa.frozen _
      have cS : (wr.setCell ⟨w.heap.size, vs.length, none⟩ (.slice (some ⟨wr.heap.size, 0, none⟩) n n)).cell? ⟨w.heap.size, vs.length, none⟩ = some (.slice (some ⟨wr.heap.size, 0, none⟩) n n) := by rw [(HG.out.put _ _).cell, padV_set _ _ _ hlt]; exact padV_last _ _ _
      obtain ⟨wm, hwm⟩ : ∃ wm, wm = (wr.setCell ⟨w.heap.size, vs.length, none⟩ (.slice (some ⟨wr.heap.size, 0, none⟩) n n)).alloc (.cells (bv (List.replicate n false)).toArray 4) := ⟨_, rfl⟩
      obtain ⟨hg1, hb1, hw1, hsz1, hsz2, hfin⟩ := row_made (F := fun i => bv (rowF n (fun c r => f r c) i)) (by decide) HG.out HR.out HW.out hlt (by rw [bv_len, rowF_len]) (by unfold maxLen; omega) hwm
      have HG1 := Lib.hid hg1; have HW1 := Lib.hid hw1; have HFin := Lib.hid hfin
      have HB1 : Hid (Blk wm wr.heap.size 4 (bv (fillA (rowF n (fun c r => f r c) vs.length) false n 0)).toArray) := Lib.hid (by rw [fill_zero]; exact hb1)
      have HWM := Lib.hid hwm.symm
      have hsq : ∀ x, x < n → (rowF n (fun c r => f r c) vs.length).getD x false = f vs.length x := fun x hx => rowF_getD n (fun c r => f r c) vs.length x hx
      have HSQ := Lib.hid hsq
      have hrl := rowF_len n (fun c r => f r c) vs.length
      have HRL := Lib.hid hrl
      clear hg1 hb1 hw1 hfin hwm HGa hsq HG HR hrl
      generalize rowF n (fun c r => f r c) vs.length = row at *
      go_wp2_with fail
      rw [HWM.out]
      clear cS cG fG
      go_loopw [25] (fun xv wi => ∃ (x : Nat), x ≤ n ∧ xv = .int .i64 x ∧ Hid (Blk wi wr.heap.size 4 (bv (fillA row false n x)).toArray) ∧ Hid (Below wr.heap.size wm wi)) (fun xv _ => n - (intOf xv).toNat)
      case atStart => exact ⟨0, Nat.zero_le _, rfl, HB1, Lib.hid (Below.refl _ _)⟩
      case round =>
        rename World => wi
        clear HB1
        obtain ⟨x, hx, rfl, HBx, HWx⟩ := hrel
        by_cases hxl : x < n
        · have hbz := HW1.out.trans (HWx.out.mono (Nat.le_of_lt hsz2))
          obtain ⟨u, cu, hu⟩ := HC.out x hxl
          rw [rowsF_at _ _ _ _ hxl] at hu
          obtain ⟨b2, o2, c2, rfl, m3, m4, HCR⟩ := row_at hu (by rw [rowF_len]; exact h0)
          have hul := rowF_len n f x
          rw [hul] at cu m3 HCR
          have r1 := cell_up cu hbz
          have r2 := cell_up (HCR.out vs.length hlt) hbz
          rw [rowF_getD n f x vs.length hlt] at r2
          have hset := fill_set row false n x (by rw [HRL.out]; exact hxl) (by rw [HRL.out]; exact Nat.le_refl _)
          have hrx := HSQ.out x hxl
          rw [List.getD, List.getElem?_eq_getElem (by rw [HRL.out]; exact hxl), Option.getD_some] at hrx
          rw [hrx] at hset
          generalize f vs.length x = q at *
          have r3 : wi.cell? ⟨w.heap.size, vs.length, none⟩ = some (.slice (some ⟨wr.heap.size, 0, none⟩) n n) := by
            rw [(HG1.out.below HWx.out hsz2).cell]; exact padV_last _ _ _
          have cO : wi.cell? ⟨wr.heap.size, x, none⟩ = some (.bool false) := by
            rw [HBx.out.cell, List.getElem?_toArray]
            unfold bv
            rw [List.getElem?_map, fill_at_k row false n x hxl (by rw [HRL.out]; exact hx)]; rfl
          have fO : wi.frozen? ⟨wr.heap.size, x, none⟩ = false := HBx.out.frozen _
          have hput := HBx.out.put x (.bool q)
          rw [bv_set, hset] at hput
          have HN2 : Hid (Blk (wi.setCell ⟨wr.heap.size, x, none⟩ (.bool q)).drew wr.heap.size 4 (bv (fillA row false n (x + 1))).toArray) := Lib.hid hput.drew
          have HWn := Lib.hid ((HWx.out.setCell (p := ⟨wr.heap.size, x, none⟩) (Nat.le_refl _) (.bool q)).drew)
          have hx1i : (x : Int) < (n : Int) := by omega
          have hy1i : (vs.length : Int) < (n : Int) := by omega
          clear hset hrx hput hbz HBx HWx hu hul cu
          go_wp2_with fail
          refine Can.wp_region_can (fun w' => w'.cell? ⟨w.heap.size, vs.length, none⟩ = some (.slice (some ⟨wr.heap.size, 0, none⟩) n n) ∧ w'.cell? ⟨b, o + x, none⟩ = some (.slice (some ⟨b2, o2, none⟩) n c2) ∧ w'.cell? ⟨b2, o2 + vs.length, none⟩ = some (.bool q) ∧ w'.cell? ⟨wr.heap.size, x, none⟩ = some (.bool false) ∧ w'.frozen? ⟨wr.heap.size, x, none⟩ = false) 13 [0, 1, 2, 3, 4, 5, 6, 7, 8, 9, 10, 11, 12, 13] (by kernel_rfl) (by kernel_rfl) (fun _ _ d _ _ h => by cases d <;> exact h) ⟨r3, r1, r2, cO, fO⟩ (fun hHeld => ?_)
          repeat (refine Can.can_pure (v := ?_) rfl rfl (Or.inl ⟨by rfl, ?_⟩) ?_; rotate_left; (focus ((intro w hSw); (try dsimp only at hSw); go_simp; (try with_reducible rfl))); (try simp only [Act.put, List.getElem_toArray, List.getElem_cons_succ, List.getElem_cons_zero, List.setIfInBounds_toArray, List.set_cons_zero, List.set_cons_succ]))
          have f1 := hHeld.2.2.2.2
          have c3 := hHeld.2.2.2.1
          refine Can.can_tail rfl rfl (by rfl) (fun K hK => ?_)
          go_simp
          refine hK.out _ _ ?_
          clear hK K
          clear hHeld f1 c3 r1 r2 r3 cO fO
          go_wp2
          go_roundw
          case rel => exact ⟨x + 1, by omega, by go_num, HN2, HWn⟩
          case measure => simp [intOf]; omega
        · obtain rfl : x = n := by omega
          have hful : fillA row false x x = row := by have := fill_full row false; rw [HRL.out] at this; exact this
          have hfin2 := HFin.out wi (by rw [← hful]; exact HBx.out) HWx.out
          have HGn := Lib.hid hfin2.1; have HRn := Lib.hid hfin2.2.1; have HWn := Lib.hid hfin2.2.2
          clear hful hfin2 HBx HWx
          go_wp2
          go_roundw
          case rel => exact ⟨vs.length + 1, vs ++ [.slice (some ⟨wr.heap.size, 0, none⟩) x x], by omega, by simp, by go_num, HGn, (by rw [List.length_append]; exact HRn), HWn⟩
          case measure => simp [intOf]; omega
    · obtain rfl : y = n := by omega
      have hpf : padV vs y = vs := by rw [← hvl]; exact padV_full vs
      have hx := HG.out
      rw [hpf] at hx
      have HX := Lib.hid hx
      have HVL := Lib.hid hvl
      clear hpf hx HG hvl
      go_wp2
      go_ret
      refine ⟨_, rfl, ⟨vs, RdT.of_blk (g := w.heap.size) HX.out HVL.out.symm (by rw [HVL.out]; exact Nat.le_refl _) (by unfold maxLen; omega), by rw [HVL.out, rowsF_len], fun i hi => ?_⟩, HW.out⟩
      rw [rowsF_len] at hi
      rw [rowsF_at _ _ _ _ hi]
      exact HR.out i (by rw [HVL.out]; exact hi)
end Go.Proofs.Ytibnfgmhnmkfeaa
