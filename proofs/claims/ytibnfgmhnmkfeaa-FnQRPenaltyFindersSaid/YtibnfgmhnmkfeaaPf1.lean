/-
  WALKS: laws.zzFits7; a square of rows of bits: laws.qrSquare.
-/
import Derived.Test.YtibnfgmhnmkfeaaRm
namespace Go.Proofs.Ytibnfgmhnmkfeaa
open Go.RowKit

set_option maxRecDepth 100000 in
theorem fits7_any (v : Value) (rows : List (List Bool)) (w : World) (hv : RowsB w w.heap.size v rows) : Calls Try.prog 8 #[v] w fun e w' => (∃ r, e = .returned (.bool r)) ∧ w' = w := by
  obtain ⟨A, cap, rfl, k1, k2⟩ := hv.form
  have HV := Lib.hid hv; clear hv
  go_enter Try.func8, Try.ntmps8
  by_cases hbig : (2147483647 : Int) < (rows.length : Int)
  · go_wp2
    go_ret
    exact ⟨⟨_, rfl⟩, rfl⟩
  go_wp2_with fail
  go_loopw [10] (fun iv wr => ∃ i : Nat, i ≤ rows.length ∧ iv = .int .i64 i ∧ wr = w) (fun iv _ => rows.length - (intOf iv).toNat)
  case atStart => exact ⟨0, Nat.zero_le _, rfl, rfl⟩
  case round =>
    obtain ⟨i, hi, rfl, rfl⟩ := hrel
    by_cases hlt : i < rows.length
    · obtain ⟨b, o, A', c', rfl, hb, hc, m1, m2, -⟩ := HV.out.row hlt
      generalize (rows.getD i []).length = m at *
      by_cases hm : (2147483647 : Int) < (m : Int)
      · go_wp2
        go_ret
        exact ⟨⟨_, rfl⟩, rfl⟩
      · go_wp2
        go_roundw
        case rel => exact ⟨i + 1, by omega, by go_num, trivial⟩
        case measure => simp [intOf]; omega
    · obtain rfl : i = rows.length := by omega
      go_wp2
      go_ret
      exact ⟨⟨_, rfl⟩, rfl⟩

/-- The bits of rows, by column and row; light where a row is too short. -/
def sqF (rows : List (List Bool)) (c r : Nat) : Bool := (rows.getD r []).getD c false
theorem getD_over (l : List Bool) (c : Nat) (h : l.length ≤ c) : l.getD c false = false := by rw [List.getD, List.getElem?_eq_none h]; rfl
theorem fill_rest (l : List Bool) (n c : Nat) (hn : l.length = n) (h : ∀ j, c ≤ j → j < n → l.getD j false = false) : fillA l false n c = l := by
  apply List.ext_getElem?
  intro j
  unfold fillA
  rcases Nat.lt_or_ge j n with hj | hj
  · rcases Nat.lt_or_ge j c with hc | hc
    · rw [List.getElem?_append_left (by rw [List.length_take]; omega), List.getElem?_take_of_lt hc]
    · have h1 := h j hc hj
      rw [List.getD, List.getElem?_eq_getElem (by omega), Option.getD_some] at h1
      rw [List.getElem?_append_right (by rw [List.length_take]; omega), List.getElem?_replicate_of_lt (by rw [List.length_take]; omega), List.getElem?_eq_getElem (by omega), h1]
  · rw [List.getElem?_eq_none (by rw [List.length_append, List.length_take, List.length_replicate]; omega), List.getElem?_eq_none (by omega)]
theorem rowF_getD (W : Nat) (f : Nat → Nat → Bool) (y x : Nat) (hx : x < W) : (rowF W f y).getD x false = f x y := by
  rw [List.getD, List.getElem?_eq_getElem (by rw [rowF_len]; exact hx), Option.getD_some, rowF_at]
set_option maxRecDepth 100000 in
set_option maxHeartbeats 2000000 in
theorem square_any (v : Value) (rows : List (List Bool)) (n : Nat) (w : World) (hv : RowsB w w.heap.size v rows) (hn : rows.length = n) (hs : n ≤ 60) :
    Calls Try.prog 35 #[v] w fun e w' => ∃ v', e = .returned v' ∧ RowsT w' v' (rowsF n n (sqF rows)) ∧ Below w.heap.size w w' := by
  obtain ⟨A, cap, rfl, k1, k2⟩ := hv.form
  rw [hn] at k1 hv ⊢
  have HV := Lib.hid hv; have HN := Lib.hid hn
  clear hv hn
  have hmk := fun a => mk_rows n a (by omega)
  have hmkb := fun a => mk_bools n a (by omega)
  have q1 : (n : Int) ≤ 60 := by omega
  have q2 : ¬ (60 : Int) < (n : Int) := by omega
  go_enter Try.func35, Try.ntmps35
  go_wp2_with fail
  have HG0 : Hid (Blk (w.alloc (Obj.cells (Array.replicate n (Value.slice none 0 0)) 36)) w.heap.size 36 (padV [] n).toArray) := Lib.hid (by
    have e : (padV [] n).toArray = Array.replicate n (Value.slice none 0 0) := by simp [padV]
    rw [e]; exact Blk.fresh w _ _)
  have HW0 := Lib.hid (bal (brf w) (Obj.cells (Array.replicate n (Value.slice none 0 0)) 36))
  clear hmk q1 q2
  go_loopw [14] (fun yv wr => ∃ (y : Nat) (vs : List Value), y ≤ n ∧ vs.length = y ∧ yv = .int .i64 y ∧ Hid (Blk wr w.heap.size 36 (padV vs n).toArray) ∧ Hid (∀ i, i < vs.length → RdT wr 4 (vs.getD i undef) (bv (rowF n (sqF rows) i))) ∧ Hid (Below w.heap.size w wr)) (fun yv _ => n - (intOf yv).toNat)
  case atStart => exact ⟨0, [], Nat.zero_le _, rfl, rfl, HG0, Lib.hid (fun i hi => absurd hi (Nat.not_lt_zero _)), HW0⟩
  case round =>
    clear HG0 HW0
    obtain ⟨y, vs, hy, hvl, rfl, HG, HR, HW⟩ := hrel
    by_cases hlt : y < n
    · subst hvl
      have HGa := HG.out.alloc (.cells (bv (List.replicate n false)).toArray 4)
      have cG : (wr.alloc (.cells (bv (List.replicate n false)).toArray 4)).cell? ⟨w.heap.size, vs.length, none⟩ = some (.slice none 0 0) := by
        rw [HGa.cell]; exact padV_at vs n hlt
      have fG : (wr.alloc (.cells (bv (List.replicate n false)).toArray 4)).frozen? ⟨w.heap.size, vs.length, none⟩ = false := HGa.frozen _
      obtain ⟨wm, hwm⟩ : ∃ wm, wm = (wr.setCell ⟨w.heap.size, vs.length, none⟩ (.slice (some ⟨wr.heap.size, 0, none⟩) n n)).alloc (.cells (bv (List.replicate n false)).toArray 4) := ⟨_, rfl⟩
      obtain ⟨hg1, hb1, hw1, hsz1, hsz2, hfin⟩ := row_made (F := fun i => bv (rowF n (sqF rows) i)) (by decide) HG.out HR.out HW.out hlt (by rw [bv_len, rowF_len]) (by unfold maxLen; omega) hwm
      have HG1 := Lib.hid hg1; have HW1 := Lib.hid hw1; have HFin := Lib.hid hfin
      have HB1 : Hid (Blk wm wr.heap.size 4 (bv (fillA (rowF n (sqF rows) vs.length) false n 0)).toArray) := Lib.hid (by rw [fill_zero]; exact hb1)
      have HWM := Lib.hid hwm.symm
      obtain ⟨b, o, A', c', rfl, hbw, hcr, m1, m2, hbits⟩ := HV.out.row (i := vs.length) (by rw [HN.out]; exact hlt)
      obtain ⟨m, hm⟩ : ∃ m, m = (rows.getD vs.length []).length := ⟨_, rfl⟩
      rw [← hm] at hcr m1 hbits
      have HCR := Lib.hid hcr; have HBits := Lib.hid hbits
      have hsq : ∀ x, x < n → (rowF n (sqF rows) vs.length).getD x false = (rows.getD vs.length []).getD x false := fun x hx => rowF_getD n _ _ x hx
      have HSQ := Lib.hid hsq
      have hrl := rowF_len n (sqF rows) vs.length
      have HM := Lib.hid hm
      clear hg1 hb1 hw1 hfin hwm HGa hcr hbits hsq hm HG HR
      generalize rowF n (sqF rows) vs.length = row at *
      go_wp2_with fail
      rw [HWM.out]
      have hyn : vs.length < n := hlt
      go_loopw [6] (fun xv wi => ∃ (x : Nat), x ≤ n ∧ xv = .int .i64 x ∧ Hid (Blk wi wr.heap.size 4 (bv (fillA row false n x)).toArray) ∧ Hid (Below wr.heap.size wm wi)) (fun xv _ => n - (intOf xv).toNat)
      case atStart => exact ⟨0, Nat.zero_le _, rfl, HB1, Lib.hid (Below.refl _ _)⟩
      case round =>
        rename World => wi
        clear HB1
        obtain ⟨x, hx, rfl, HBx, HWx⟩ := hrel
        have hbz := HW1.out.trans (HWx.out.mono (Nat.le_of_lt hsz2))
        have r1 := cell_up HCR.out hbz
        by_cases hxl : x < n ∧ x < m
        · obtain ⟨b', o', rfl, hb', hcc⟩ := HBits.out (by omega)
          have r2 := cell_up (hcc x hxl.2) hbz
          have hset := fill_set row false n x (by omega) (by omega)
          have hrx := HSQ.out x hxl.1
          rw [List.getD, List.getElem?_eq_getElem (by omega), Option.getD_some] at hrx
          rw [hrx] at hset
          generalize (rows.getD vs.length []).getD x false = q at *
          have r3 : wi.cell? ⟨w.heap.size, vs.length, none⟩ = some (.slice (some ⟨wr.heap.size, 0, none⟩) n n) := by
            rw [(HG1.out.below HWx.out hsz2).cell]; exact padV_last _ _ _
          have cO : wi.cell? ⟨wr.heap.size, x, none⟩ = some (.bool false) := by
            rw [HBx.out.cell, List.getElem?_toArray]
            unfold bv
            rw [List.getElem?_map, fill_at_k row false n x hxl.1 (by omega)]; rfl
          have fO : wi.frozen? ⟨wr.heap.size, x, none⟩ = false := HBx.out.frozen _
          have hput := HBx.out.put x (.bool q)
          rw [bv_set, hset] at hput
          have HN2 : Hid (Blk (wi.setCell ⟨wr.heap.size, x, none⟩ (.bool q)).drew wr.heap.size 4 (bv (fillA row false n (x + 1))).toArray) := Lib.hid hput.drew
          have HWn := Lib.hid ((HWx.out.setCell (p := ⟨wr.heap.size, x, none⟩) (Nat.le_refl _) (.bool q)).drew)
          obtain ⟨hx1, hx2⟩ := hxl
          have hx1i : (x : Int) < (n : Int) := by omega
          have hx2i : (x : Int) < (m : Int) := by omega
          clear hset hrx hput hcc hbz HBx HWx
          go_wp2_with fail
          refine Can.wp_region_can (fun w' => w'.cell? ⟨w.heap.size, vs.length, none⟩ = some (.slice (some ⟨wr.heap.size, 0, none⟩) n n) ∧ w'.cell? ⟨b, o + vs.length, none⟩ = some (.slice (some ⟨b', o', none⟩) m c') ∧ w'.cell? ⟨b', o' + x, none⟩ = some (.bool q) ∧ w'.cell? ⟨wr.heap.size, x, none⟩ = some (.bool false) ∧ w'.frozen? ⟨wr.heap.size, x, none⟩ = false) 13 [0, 1, 2, 3, 4, 5, 6, 7, 8, 9, 10, 11, 12, 13] (by kernel_rfl) (by kernel_rfl) (fun _ _ d _ _ h => by cases d <;> exact h) ⟨r3, r1, r2, cO, fO⟩ (fun hHeld => ?_)
          repeat (refine Can.can_pure (v := ?_) rfl rfl (Or.inl ⟨by rfl, ?_⟩) ?_; rotate_left; (focus ((intro w hSw); (try dsimp only at hSw); go_simp; (try with_reducible rfl))); (try simp only [Act.put, List.getElem_toArray, List.getElem_cons_succ, List.getElem_cons_zero, List.setIfInBounds_toArray, List.set_cons_zero, List.set_cons_succ]))
          have f1 := hHeld.2.2.2.2
          have c3 := hHeld.2.2.2.1
          refine Can.can_tail rfl rfl (by rfl) (fun K hK => ?_)
          go_simp
          refine hK.out _ _ ?_
          clear hK K
          clear hHeld f1 c3 r1 r2 r3 cO fO
          go_wp2
          go_roundw
          case rel => exact ⟨x + 1, by omega, by go_num, HN2, HWn⟩
          case measure => simp [intOf]; omega
        · have hful : fillA row false n x = row := fill_rest row n x hrl (fun j h1 h2 => by
            rw [HSQ.out j h2]
            exact getD_over _ _ (by rw [← HM.out]; omega))
          have hfin2 := HFin.out wi (by rw [← hful]; exact HBx.out) HWx.out
          have HGn := Lib.hid hfin2.1; have HRn := Lib.hid hfin2.2.1; have HWn := Lib.hid hfin2.2.2
          clear hful hfin2 hbz HBx HWx
          by_cases hx1 : x < n
          · have hx2 : ¬ x < m := by omega
            have hx1i : (x : Int) < (n : Int) := by omega
            have hx2i : ¬ (x : Int) < (m : Int) := by omega
            clear hxl
            go_wp2
            go_roundw
            case rel => exact ⟨vs.length + 1, vs ++ [.slice (some ⟨wr.heap.size, 0, none⟩) n n], by omega, by simp, by go_num, HGn, (by rw [List.length_append]; exact HRn), HWn⟩
            case measure => simp [intOf]; omega
          · have hx1i : ¬ (x : Int) < (n : Int) := by omega
            clear hxl
            go_wp2
            go_roundw
            case rel => exact ⟨vs.length + 1, vs ++ [.slice (some ⟨wr.heap.size, 0, none⟩) n n], by omega, by simp, by go_num, HGn, (by rw [List.length_append]; exact HRn), HWn⟩
            case measure => simp [intOf]; omega
    · obtain rfl : y = n := by omega
      have hpf : padV vs y = vs := by rw [← hvl]; exact padV_full vs
      have hx := HG.out
      rw [hpf] at hx
      have HX := Lib.hid hx
      have HVL := Lib.hid hvl
      clear hpf hx HG hvl
      go_wp2
      go_ret
      refine ⟨_, rfl, ⟨vs, RdT.of_blk (g := w.heap.size) HX.out HVL.out.symm (by rw [HVL.out]; exact Nat.le_refl _) (by unfold maxLen; omega), by rw [HVL.out, rowsF_len], fun i hi => ?_⟩, HW.out⟩
      rw [rowsF_len] at hi
      rw [rowsF_at _ _ _ _ hi]
      exact HR.out i (by rw [HVL.out]; exact hi)
end Go.Proofs.Ytibnfgmhnmkfeaa
