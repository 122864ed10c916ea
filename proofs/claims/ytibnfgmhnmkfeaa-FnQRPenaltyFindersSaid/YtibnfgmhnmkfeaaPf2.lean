/-
  WALK: laws.qrCells: a square of cells 0 and 1.
-/
import Derived.Test.YtibnfgmhnmkfeaaPf1
namespace Go.Proofs.Ytibnfgmhnmkfeaa
open Go.RowKit

theorem RowsB.take {w : World} {B : Nat} {A : Option Addr} {len cap n : Nat} {rows : List (List Bool)} (h : RowsB w B (.slice A len cap) rows) (hn : n ≤ rows.length) : RowsB w B (.slice A n cap) (rows.take n) := by
  obtain ⟨vs, h1, h2, h3⟩ := h
  obtain ⟨A0, cap0, hv, k1, k2, k3⟩ := h1
  injection hv with e1 e2 e3
  subst e1 e3
  have hl : (vs.take n).length = n := by rw [List.length_take]; omega
  have hr : (rows.take n).length = n := by rw [List.length_take]; omega
  refine ⟨vs.take n, ⟨A, cap, by rw [hl], by rw [hl]; omega, k2, fun hpos => ?_⟩, by rw [hl, hr], fun i hi => ?_⟩
  · rw [hl] at hpos
    obtain ⟨b, o, rfl, hb, hc⟩ := k3 (by omega)
    refine ⟨b, o, rfl, hb, fun j u hu => ?_⟩
    have hj : j < n := by have := (List.getElem?_eq_some_iff.1 hu).1; rwa [hl] at this
    rw [List.getElem?_take_of_lt hj] at hu
    exact hc j u hu
  · rw [hr] at hi
    have e1 : (vs.take n).getD i undef = vs.getD i undef := by rw [List.getD, List.getElem?_take_of_lt hi]; rfl
    have e2 : (rows.take n).getD i [] = rows.getD i [] := by rw [List.getD, List.getElem?_take_of_lt hi]; rfl
    rw [e1, e2]
    exact h3 i (by omega)
/-- Rows of values of one length. -/
def RowsV (w : World) (T1 T2 : TypeId) (v : Value) (n : Nat) (F : Nat → List Value) : Prop :=
  ∃ vs : List Value, RdT w T1 v vs ∧ vs.length = n ∧ ∀ i, i < n → RdT w T2 (vs.getD i undef) (F i)
theorem RowsV.up {w w' : World} {T1 T2 : TypeId} {v : Value} {n : Nat} {F : Nat → List Value} (h : RowsV w T1 T2 v n F) (hb : Below w.heap.size w w') : RowsV w' T1 T2 v n F := by
  obtain ⟨vs, h1, h2, h3⟩ := h
  exact ⟨vs, h1.up hb, h2, fun i hi => (h3 i hi).up hb⟩
/-- Bits as cells. -/
def i8v (l : List Bool) : List Value := l.map fun b => Value.int .i8 (if b = true then 1 else 0)
theorem i8v_len (l : List Bool) : (i8v l).length = l.length := by simp [i8v]
theorem i8v_set (l : List Bool) (i : Nat) : (i8v l).toArray.setIfInBounds i (.int .i8 1) = (i8v (l.set i true)).toArray := by simp [i8v, List.map_set]
theorem i8v_rep (n : Nat) : rep n (.int .i8 0) = (i8v (List.replicate n false)).toArray := by simp [rep, i8v]
theorem info_i8 : (Try.prog.info? 73).map (fun i => (i.zero, i.size, i.bytes)) = some (some (.int .i8 0), 1, 1) := by kernel_rfl
theorem info_i8s : (Try.prog.info? 72).map (fun i => (i.zero, i.size, i.bytes)) = some (some (.slice none 0 0), 1, 24) := by kernel_rfl
theorem mk_i8 (n : Nat) (W : World) (hn : n ≤ 65536) : (Instr.makeSlice 72 (.int .i64 (n : Int)) (.int .i64 (n : Int))).run Try.prog W =
    .ok (.slice (some ⟨W.heap.size, 0, none⟩) n n) (W.alloc (.cells (i8v (List.replicate n false)).toArray 73)) := by
  have h := run_mk (P := Try.prog) 72 73 (.int .i8 0) 1 Try.underlying72 info_i8 rfl n (by omega) (by omega) W
  rw [i8v_rep] at h
  exact h
theorem mk_i8rows (n : Nat) (W : World) (hn : n ≤ 65536) : (Instr.makeSlice 24 (.int .i64 (n : Int)) (.int .i64 (n : Int))).run Try.prog W =
    .ok (.slice (some ⟨W.heap.size, 0, none⟩) n n) (W.alloc (.cells (padV [] n).toArray 72)) := by
  have h := run_mk (P := Try.prog) 24 72 (.slice none 0 0) 24 Try.underlying24 info_i8s rfl n (by omega) (by omega) W
  have e : rep n (Value.slice none 0 0) = (padV [] n).toArray := by simp [rep, padV]
  rw [e] at h
  exact h
theorem fill_skip (l : List Bool) (n k : Nat) (hk : k < l.length) (hn : l.length = n) (h : l[k] = false) : fillA l false n (k + 1) = fillA l false n k := by
  have h1 := fill_set l false n k hk (by omega)
  rw [h] at h1
  rw [← h1]
  have h2 := fill_at_k l false n k (by omega) (by omega)
  apply List.ext_getElem?
  intro j
  by_cases hj : k = j
  · subst hj
    rw [List.getElem?_set_self (List.getElem?_eq_some_iff.1 h2).1, h2]
  · rw [List.getElem?_set_ne hj]
theorem i8v_at (l : List Bool) (n k : Nat) (hk : k < l.length) (hn : l.length = n) : (i8v (fillA l false n k)).toArray[k]? = some (.int .i8 0) := by
  rw [List.getElem?_toArray]
  unfold i8v
  rw [List.getElem?_map, fill_at_k l false n k (by omega) (by omega)]; rfl
set_option maxRecDepth 100000 in
set_option maxHeartbeats 2000000 in
/-- laws.qrCells, behind the square. -/
theorem cells_any (v : Value) (rows : List (List Bool)) (w : World) (hv : RowsB w w.heap.size v rows) :
    Calls Try.prog 9 #[v] w fun e w' => ∃ n f v1 v2, e = .returned (.tuple #[v1, v2]) ∧ n ≤ 40 ∧ RowsV w' 72 73 v1 n (fun i => i8v (rowF n f i)) ∧ RowsT w' v2 (rowsF n n f) ∧ Below w.heap.size w w' := by
  obtain ⟨A, cap, rfl, k1, k2⟩ := hv.form
  obtain ⟨n, hn⟩ : ∃ n, n = min rows.length 40 := ⟨_, rfl⟩
  have hn40 : n ≤ 40 := by omega
  have hnl : n ≤ rows.length := by omega
  have hT := hv.take hnl
  have HT := Lib.hid hT
  have hTl : (rows.take n).length = n := by rw [List.length_take]; omega
  have HTL := Lib.hid hTl
  clear hT hTl hv
  have hcap : n ≤ cap := by omega
  generalize rows.take n = rs at *
  obtain ⟨f, hf⟩ : ∃ f, f = sqF rs := ⟨_, rfl⟩
  have HF := Lib.hid hf
  clear hf
  have hmk := fun a => mk_i8rows n a (by omega)
  have hmkb := fun a => mk_i8 n a (by omega)
  by_cases hle : rows.length ≤ 40
  · obtain rfl : n = rows.length := by omega
    have q1 : ((rows.length : Nat) : Int) ≤ 40 := by omega
    generalize rows.length = n at *
    clear hn
    go_enter Try.func9, Try.ntmps9
    go_wp2_with fail
    refine (square_any _ rs n w HT.out HTL.out (by omega)).mono ?_
    rintro e w1 ⟨v1, rfl, hsq, hb1⟩
    rw [← HF.out] at hsq
    have HSQ := Lib.hid hsq
    have HB1 := Lib.hid hb1
    clear hsq hb1 HT HTL HF
    go_wp2_with fail
    have HG0 : Hid (Blk (w1.alloc (Obj.cells (padV [] n).toArray 72)) w1.heap.size 72 (padV [] n).toArray) := Lib.hid (Blk.fresh w1 _ _)
    have HW0 := Lib.hid (bal (brf w1) (Obj.cells (padV [] n).toArray 72))
    clear hmk q1
    (try clear e40 q2)
    go_loopw [20] (fun yv wr => ∃ (y : Nat) (vs : List Value), y ≤ n ∧ vs.length = y ∧ yv = .int .i64 y ∧ Hid (Blk wr w1.heap.size 72 (padV vs n).toArray) ∧ Hid (∀ i, i < vs.length → RdT wr 73 (vs.getD i undef) (i8v (rowF n f i))) ∧ Hid (Below w1.heap.size w1 wr)) (fun yv _ => n - (intOf yv).toNat)
    case atStart => exact ⟨0, [], Nat.zero_le _, rfl, rfl, HG0, Lib.hid (fun i hi => absurd hi (Nat.not_lt_zero _)), HW0⟩
    case round =>
      clear HG0 HW0
      obtain ⟨y, vs, hy, hvl, rfl, HG, HR, HW⟩ := hrel
      by_cases hlt : y < n
      · subst hvl
        have HGa := HG.out.alloc (.cells (i8v (List.replicate n false)).toArray 73)
        have cG : (wr.alloc (.cells (i8v (List.replicate n false)).toArray 73)).cell? ⟨w1.heap.size, vs.length, none⟩ = some (.slice none 0 0) := by
          rw [HGa.cell]; exact padV_at vs n hlt
        have fG : (wr.alloc (.cells (i8v (List.replicate n false)).toArray 73)).frozen? ⟨w1.heap.size, vs.length, none⟩ = false := HGa.frozen _
        obtain ⟨wm, hwm⟩ : ∃ wm, wm = (wr.setCell ⟨w1.heap.size, vs.length, none⟩ (.slice (some ⟨wr.heap.size, 0, none⟩) n n)).alloc (.cells (i8v (List.replicate n false)).toArray 73) := ⟨_, rfl⟩
        obtain ⟨hg1, hb1, hw1, hsz1, hsz2, hfin⟩ := row_made (F := fun i => i8v (rowF n f i)) (by decide) HG.out HR.out HW.out hlt (by rw [i8v_len, rowF_len]) (by unfold maxLen; omega) hwm
        have cS : (wr.setCell ⟨w1.heap.size, vs.length, none⟩ (.slice (some ⟨wr.heap.size, 0, none⟩) n n)).cell? ⟨w1.heap.size, vs.length, none⟩ = some (.slice (some ⟨wr.heap.size, 0, none⟩) n n) := by rw [(HG.out.put _ _).cell, padV_set _ _ _ hlt]; exact padV_last _ _ _
        have HG1 := Lib.hid hg1; have HW1 := Lib.hid hw1; have HFin := Lib.hid hfin
        have HBr : Hid (Blk wm wr.heap.size 73 (i8v (fillA (rowF n f vs.length) false n 0)).toArray) := Lib.hid (by rw [fill_zero]; exact hb1)
        have HWM := Lib.hid hwm.symm
        obtain ⟨b, o, c1, rfl, m1, m2, HC⟩ := HSQ.out.at_ (by rw [rowsF_len]; omega)
        rw [rowsF_len] at m1 HC ⊢
        obtain ⟨u, cu, hu⟩ := HC.out vs.length hlt
        rw [rowsF_at _ _ _ _ hlt] at hu
        obtain ⟨b2, o2, c2, rfl, m3, m4, HCR⟩ := row_at hu (by rw [rowF_len]; omega)
        have hrl := rowF_len n f vs.length
        rw [hrl] at cu m3 HCR
        have HCU := Lib.hid cu
        have HRL := Lib.hid hrl
        clear hg1 hb1 hw1 hfin hwm HGa HG HR HC hu cu hrl
        generalize rowF n f vs.length = row at *
        go_wp2_with fail
        rw [HWM.out]
        clear cS cG fG
        go_loopw [33] (fun xv wi => ∃ (x : Nat), x ≤ n ∧ xv = .int .i64 x ∧ Hid (Blk wi wr.heap.size 73 (i8v (fillA row false n x)).toArray) ∧ Hid (Below wr.heap.size wm wi)) (fun xv _ => n - (intOf xv).toNat)
        case atStart => exact ⟨0, Nat.zero_le _, rfl, HBr, Lib.hid (Below.refl _ _)⟩
        case round =>
          rename World => wi
          clear HBr
          obtain ⟨x, hx, rfl, HBx, HWx⟩ := hrel
          by_cases hxl : x < n
          · have hbz := HW1.out.trans (HWx.out.mono (Nat.le_of_lt hsz2))
            have r1 := cell_up HCU.out hbz
            have r2 := cell_up (HCR.out x hxl) hbz
            have hxr : x < row.length := by rw [HRL.out]; exact hxl
            rw [List.getD, List.getElem?_eq_getElem hxr, Option.getD_some] at r2
            by_cases hq : row[x] = true
            · rw [hq] at r2
              have hset := fill_set row false n x hxr (by rw [HRL.out]; exact Nat.le_refl _)
              rw [hq] at hset
              have cO : wi.cell? ⟨wr.heap.size, x, none⟩ = some (.int .i8 0) := by rw [HBx.out.cell]; exact i8v_at row n x hxr HRL.out
              have fO : wi.frozen? ⟨wr.heap.size, x, none⟩ = false := HBx.out.frozen _
              have r3 : wi.cell? ⟨w1.heap.size, vs.length, none⟩ = some (.slice (some ⟨wr.heap.size, 0, none⟩) n n) := by
                rw [(HG1.out.below HWx.out hsz2).cell]; exact padV_last _ _ _
              have hput := HBx.out.put x (.int .i8 1)
              rw [i8v_set, hset] at hput
              have HN2 := Lib.hid hput
              have HWn := Lib.hid (HWx.out.setCell (p := ⟨wr.heap.size, x, none⟩) (Nat.le_refl _) (.int .i8 1))
              clear hset hput hq hxr hbz HBx HWx
              go_wp2
              go_roundw
              case rel => exact ⟨x + 1, by omega, by go_num, HN2, HWn⟩
              case measure => simp [intOf]; omega
            · have hqf : row[x] = false := by simpa using hq
              rw [hqf] at r2
              have hskip := fill_skip row n x hxr HRL.out hqf
              have HN2 : Hid (Blk wi wr.heap.size 73 (i8v (fillA row false n (x + 1))).toArray) := Lib.hid (by rw [hskip]; exact HBx.out)
              clear hskip hq hqf hxr hbz HBx
              go_wp2
              go_roundw
              case rel => exact ⟨x + 1, by omega, by go_num, HN2, HWx⟩
              case measure => simp [intOf]; omega
          · obtain rfl : x = n := by omega
            have hful : fillA row false x x = row := by have := fill_full row false; rw [HRL.out] at this; exact this
            have hfin2 := HFin.out wi (by rw [← hful]; exact HBx.out) HWx.out
            have HGn := Lib.hid hfin2.1; have HRn := Lib.hid hfin2.2.1; have HWn := Lib.hid hfin2.2.2
            clear hful hfin2 HBx HWx
            go_wp2
            go_roundw
            case rel => exact ⟨vs.length + 1, vs ++ [.slice (some ⟨wr.heap.size, 0, none⟩) x x], by omega, by simp, by go_num, HGn, (by rw [List.length_append]; exact HRn), HWn⟩
            case measure => simp [intOf]; omega
      · obtain rfl : y = n := by omega
        have hpf : padV vs y = vs := by rw [← hvl]; exact padV_full vs
        have hx := HG.out
        rw [hpf] at hx
        have HX := Lib.hid hx
        have HVL := Lib.hid hvl
        clear hpf hx HG hvl
        have HB2 := Lib.hid (bup HB1.out HW.out)
        have HSQ2 := Lib.hid (HSQ.out.up HW.out)
        go_wp2
        go_returns
        refine ⟨y, f, _, _, rfl, hn40, ⟨vs, RdT.of_blk (g := w1.heap.size) HX.out HVL.out.symm (by rw [HVL.out]; exact Nat.le_refl _) (by unfold maxLen; omega), HVL.out, fun i hi => HR.out i (by rw [HVL.out]; exact hi)⟩, HSQ2.out, HB2.out⟩
  · have e40 : (40 : Int) = (n : Int) := by omega
    have q1 : ¬ ((rows.length : Nat) : Int) ≤ (n : Int) := by omega
    have q2 : (n : Int) < ((rows.length : Nat) : Int) := by omega
    have q3 : n ≤ rows.length := by omega
    generalize rows.length = m at *
    clear hn hle
    go_enter Try.func9, Try.ntmps9
    go_wp2_with fail
    refine (square_any _ rs n w HT.out HTL.out (by omega)).mono ?_
    rintro e w1 ⟨v1, rfl, hsq, hb1⟩
    rw [← HF.out] at hsq
    have HSQ := Lib.hid hsq
    have HB1 := Lib.hid hb1
    clear hsq hb1 HT HTL HF
    go_wp2_with fail
    have HG0 : Hid (Blk (w1.alloc (Obj.cells (padV [] n).toArray 72)) w1.heap.size 72 (padV [] n).toArray) := Lib.hid (Blk.fresh w1 _ _)
    have HW0 := Lib.hid (bal (brf w1) (Obj.cells (padV [] n).toArray 72))
    clear hmk q1
    (try clear e40 q2)
    go_loopw [20] (fun yv wr => ∃ (y : Nat) (vs : List Value), y ≤ n ∧ vs.length = y ∧ yv = .int .i64 y ∧ Hid (Blk wr w1.heap.size 72 (padV vs n).toArray) ∧ Hid (∀ i, i < vs.length → RdT wr 73 (vs.getD i undef) (i8v (rowF n f i))) ∧ Hid (Below w1.heap.size w1 wr)) (fun yv _ => n - (intOf yv).toNat)
    case atStart => exact ⟨0, [], Nat.zero_le _, rfl, rfl, HG0, Lib.hid (fun i hi => absurd hi (Nat.not_lt_zero _)), HW0⟩
    case round =>
      clear HG0 HW0
      obtain ⟨y, vs, hy, hvl, rfl, HG, HR, HW⟩ := hrel
      by_cases hlt : y < n
      · subst hvl
        have HGa := HG.out.alloc (.cells (i8v (List.replicate n false)).toArray 73)
        have cG : (wr.alloc (.cells (i8v (List.replicate n false)).toArray 73)).cell? ⟨w1.heap.size, vs.length, none⟩ = some (.slice none 0 0) := by
          rw [HGa.cell]; exact padV_at vs n hlt
        have fG : (wr.alloc (.cells (i8v (List.replicate n false)).toArray 73)).frozen? ⟨w1.heap.size, vs.length, none⟩ = false := HGa.frozen _
        obtain ⟨wm, hwm⟩ : ∃ wm, wm = (wr.setCell ⟨w1.heap.size, vs.length, none⟩ (.slice (some ⟨wr.heap.size, 0, none⟩) n n)).alloc (.cells (i8v (List.replicate n false)).toArray 73) := ⟨_, rfl⟩
        obtain ⟨hg1, hb1, hw1, hsz1, hsz2, hfin⟩ := row_made (F := fun i => i8v (rowF n f i)) (by decide) HG.out HR.out HW.out hlt (by rw [i8v_len, rowF_len]) (by unfold maxLen; omega) hwm
        have cS : (wr.setCell ⟨w1.heap.size, vs.length, none⟩ (.slice (some ⟨wr.heap.size, 0, none⟩) n n)).cell? ⟨w1.heap.size, vs.length, none⟩ = some (.slice (some ⟨wr.heap.size, 0, none⟩) n n) := by rw [(HG.out.put _ _).cell, padV_set _ _ _ hlt]; exact padV_last _ _ _
        have HG1 := Lib.hid hg1; have HW1 := Lib.hid hw1; have HFin := Lib.hid hfin
        have HBr : Hid (Blk wm wr.heap.size 73 (i8v (fillA (rowF n f vs.length) false n 0)).toArray) := Lib.hid (by rw [fill_zero]; exact hb1)
        have HWM := Lib.hid hwm.symm
        obtain ⟨b, o, c1, rfl, m1, m2, HC⟩ := HSQ.out.at_ (by rw [rowsF_len]; omega)
        rw [rowsF_len] at m1 HC ⊢
        obtain ⟨u, cu, hu⟩ := HC.out vs.length hlt
        rw [rowsF_at _ _ _ _ hlt] at hu
        obtain ⟨b2, o2, c2, rfl, m3, m4, HCR⟩ := row_at hu (by rw [rowF_len]; omega)
        have hrl := rowF_len n f vs.length
        rw [hrl] at cu m3 HCR
        have HCU := Lib.hid cu
        have HRL := Lib.hid hrl
        clear hg1 hb1 hw1 hfin hwm HGa HG HR HC hu cu hrl
        generalize rowF n f vs.length = row at *
        go_wp2_with fail
        rw [HWM.out]
        clear cS cG fG
        go_loopw [33] (fun xv wi => ∃ (x : Nat), x ≤ n ∧ xv = .int .i64 x ∧ Hid (Blk wi wr.heap.size 73 (i8v (fillA row false n x)).toArray) ∧ Hid (Below wr.heap.size wm wi)) (fun xv _ => n - (intOf xv).toNat)
        case atStart => exact ⟨0, Nat.zero_le _, rfl, HBr, Lib.hid (Below.refl _ _)⟩
        case round =>
          rename World => wi
          clear HBr
          obtain ⟨x, hx, rfl, HBx, HWx⟩ := hrel
          by_cases hxl : x < n
          · have hbz := HW1.out.trans (HWx.out.mono (Nat.le_of_lt hsz2))
            have r1 := cell_up HCU.out hbz
            have r2 := cell_up (HCR.out x hxl) hbz
            have hxr : x < row.length := by rw [HRL.out]; exact hxl
            rw [List.getD, List.getElem?_eq_getElem hxr, Option.getD_some] at r2
            by_cases hq : row[x] = true
            · rw [hq] at r2
              have hset := fill_set row false n x hxr (by rw [HRL.out]; exact Nat.le_refl _)
              rw [hq] at hset
              have cO : wi.cell? ⟨wr.heap.size, x, none⟩ = some (.int .i8 0) := by rw [HBx.out.cell]; exact i8v_at row n x hxr HRL.out
              have fO : wi.frozen? ⟨wr.heap.size, x, none⟩ = false := HBx.out.frozen _
              have r3 : wi.cell? ⟨w1.heap.size, vs.length, none⟩ = some (.slice (some ⟨wr.heap.size, 0, none⟩) n n) := by
                rw [(HG1.out.below HWx.out hsz2).cell]; exact padV_last _ _ _
              have hput := HBx.out.put x (.int .i8 1)
              rw [i8v_set, hset] at hput
              have HN2 := Lib.hid hput
              have HWn := Lib.hid (HWx.out.setCell (p := ⟨wr.heap.size, x, none⟩) (Nat.le_refl _) (.int .i8 1))
              clear hset hput hq hxr hbz HBx HWx
              go_wp2
              go_roundw
              case rel => exact ⟨x + 1, by omega, by go_num, HN2, HWn⟩
              case measure => simp [intOf]; omega
            · have hqf : row[x] = false := by simpa using hq
              rw [hqf] at r2
              have hskip := fill_skip row n x hxr HRL.out hqf
              have HN2 : Hid (Blk wi wr.heap.size 73 (i8v (fillA row false n (x + 1))).toArray) := Lib.hid (by rw [hskip]; exact HBx.out)
              clear hskip hq hqf hxr hbz HBx
              go_wp2
              go_roundw
              case rel => exact ⟨x + 1, by omega, by go_num, HN2, HWx⟩
              case measure => simp [intOf]; omega
          · obtain rfl : x = n := by omega
            have hful : fillA row false x x = row := by have := fill_full row false; rw [HRL.out] at this; exact this
            have hfin2 := HFin.out wi (by rw [← hful]; exact HBx.out) HWx.out
            have HGn := Lib.hid hfin2.1; have HRn := Lib.hid hfin2.2.1; have HWn := Lib.hid hfin2.2.2
            clear hful hfin2 HBx HWx
            go_wp2
            go_roundw
            case rel => exact ⟨vs.length + 1, vs ++ [.slice (some ⟨wr.heap.size, 0, none⟩) x x], by omega, by simp, by go_num, HGn, (by rw [List.length_append]; exact HRn), HWn⟩
            case measure => simp [intOf]; omega
      · obtain rfl : y = n := by omega
        have hpf : padV vs y = vs := by rw [← hvl]; exact padV_full vs
        have hx := HG.out
        rw [hpf] at hx
        have HX := Lib.hid hx
        have HVL := Lib.hid hvl
        clear hpf hx HG hvl
        have HB2 := Lib.hid (bup HB1.out HW.out)
        have HSQ2 := Lib.hid (HSQ.out.up HW.out)
        go_wp2
        go_returns
        refine ⟨y, f, _, _, rfl, hn40, ⟨vs, RdT.of_blk (g := w1.heap.size) HX.out HVL.out.symm (by rw [HVL.out]; exact Nat.le_refl _) (by unfold maxLen; omega), HVL.out, fun i hi => HR.out i (by rw [HVL.out]; exact hi)⟩, HSQ2.out, HB2.out⟩
end Go.Proofs.Ytibnfgmhnmkfeaa
