/-
  WALKS: rows of a BitMatrix.
-/
import Derived.Test.YtcldipbboidjbaaRw
import Derived.Test.YtcldipbboidjbaaBmw
namespace Go.Proofs.Ytcldipbboidjbaa
open Go.RowKit

theorem MatAt.below {w w' : World} {p g W H B : Nat} {f : Nat → Nat → Bool} (h : MatAt w p g W H f) (hb : Below B w w') (hp : p < B) (hg : g < B) : MatAt w' p g W H f := by
  obtain ⟨ws, h1, h2⟩ := h
  exact ⟨ws, ⟨h1.head.below hb hp, h1.rows.below hb hg, h1.lt, h1.len, h1.apart⟩, h2⟩
theorem MatAt.blt {w : World} {p g W H : Nat} {f : Nat → Nat → Bool} (h : MatAt w p g W H f) : p < w.heap.size ∧ g < w.heap.size := by
  obtain ⟨ws, h1, _⟩ := h; exact ⟨h1.head.lt, h1.rows.lt⟩

/-- Rows in a block of their own, n of them. -/
def RowsA (w : World) (b n : Nat) (rows : List (List Bool)) : Prop :=
  ∃ vs : List Value, Blk w b 29 vs.toArray ∧ vs.length = n ∧ n = rows.length ∧ ∀ i, i < rows.length → RdT w 4 (vs.getD i undef) (bv (rows.getD i []))
theorem RowsA.rowsT {w : World} {b n : Nat} {rows : List (List Bool)} (h : RowsA w b n rows) (hn : n ≤ 4096) : RowsT w (.slice (some ⟨b, 0, none⟩) n n) rows := by
  obtain ⟨vs, h1, h2, h3, h4⟩ := h
  exact ⟨vs, RdT.of_blk h1 (by omega) (by omega) (by unfold maxLen; omega), by omega, h4⟩
theorem RowsA.up {w w' : World} {b n : Nat} {rows : List (List Bool)} (h : RowsA w b n rows) (hb : Below w.heap.size w w') : RowsA w' b n rows := by
  obtain ⟨vs, h1, h2, h3, h4⟩ := h
  exact ⟨vs, h1.up hb, h2, h3, fun i hi => (h4 i hi).up hb⟩
/-- A cell of another block of rows is written. -/
theorem RowsA.far {w : World} {b n g : Nat} {rows : List (List Bool)} {cs : Array Value} (h : RowsA w b n rows) (hg : Blk w g 29 cs) (hne : b ≠ g) (i : Nat) (u : Value) : RowsA (w.setCell ⟨g, i, none⟩ u) b n rows := by
  obtain ⟨vs, h1, h2, h3, h4⟩ := h
  exact ⟨vs, h1.far hne _, h2, h3, fun j hj => ((h4 j hj).rdB.far (p := ⟨g, i, none⟩) hg (by decide) _).rdT⟩
set_option maxRecDepth 100000 in
set_option maxHeartbeats 2000000 in
/-- impl.rowsOf. -/
theorem rowsOfB_any (p g W H : Nat) (f : Nat → Nat → Bool) (w : World) (hm : MatAt w p g W H f) (hW4 : W ≤ 4096) (hH4 : H ≤ 4096) :
    Calls Try.prog 44 #[.pointer (some ⟨p, 0, none⟩)] w fun e w' => ∃ b, e = .returned (.slice (some ⟨b, 0, none⟩) H H) ∧ w.heap.size ≤ b ∧ RowsA w' b H (rowsF W H f) ∧ Below w.heap.size w w' := by
  have HM := Lib.hid hm; clear hm
  have hmk := fun a => mk_rows H a (by omega)
  have hmkb := fun a => mk_bools W a (by omega)
  go_enter Try.func44, Try.ntmps44
  go_wp2_with fail
  refine (matHeight_any p g W H f _ HM.out).mono ?_
  rintro e w0 ⟨rfl, rfl⟩
  go_wp2_with fail
  clear hmk
  go_loopw [11] (fun yv wr => ∃ (y : Nat) (vs : List Value), y ≤ H ∧ vs.length ≤ y ∧ y ≤ vs.length ∧ yv = .int .i64 y ∧ Hid (Blk wr w0.heap.size 29 (padV vs H).toArray) ∧
    Hid (∀ i, i < y → RdT wr 4 (vs.getD i undef) (bv (rowF W f i))) ∧ Hid (Below w0.heap.size w0 wr)) (fun yv _ => H - (intOf yv).toNat)
  case atStart => exact ⟨0, [], Nat.zero_le _, Nat.le_refl _, Nat.zero_le _, rfl, Lib.hid (by unfold padV; exact Blk.fresh w0 _ _), Lib.hid (fun i hi => absurd hi (Nat.not_lt_zero _)), Lib.hid (bal (brf w0) _)⟩
  case round =>
    obtain ⟨y, vs, hy, hy1, hy2, rfl, HG, HR, HW⟩ := hrel
    by_cases hlt : y < H
    · obtain rfl : y = vs.length := by omega
      have hglt := HG.out.lt
      go_wp2_with fail
      refine (matWidth_any p g W H f _ (HM.out.up HW.out)).mono ?_
      rintro e wr ⟨rfl, rfl⟩
      have HGa := HG.out.alloc (.cells (bv (List.replicate W false)).toArray 4)
      have cG : (wr.alloc (.cells (bv (List.replicate W false)).toArray 4)).cell? ⟨w0.heap.size, vs.length, none⟩ = some (.slice none 0 0) := by
        rw [HGa.cell]; exact padV_at vs H hlt
      have fG : (wr.alloc (.cells (bv (List.replicate W false)).toArray 4)).frozen? ⟨w0.heap.size, vs.length, none⟩ = false := HGa.frozen _
      obtain ⟨wm, hwm⟩ : ∃ wm, wm = (wr.setCell ⟨w0.heap.size, vs.length, none⟩ (.slice (some ⟨wr.heap.size, 0, none⟩) W W)).alloc (.cells (bv (List.replicate W false)).toArray 4) := ⟨_, rfl⟩
      have HG1 : Hid (Blk wm w0.heap.size 29 (padV (vs ++ [.slice (some ⟨wr.heap.size, 0, none⟩) W W]) H).toArray) := Lib.hid (by
        rw [hwm, ← padV_set _ _ _ hlt]; exact (HG.out.put _ _).alloc _)
      have HB1 : Hid (Blk wm wr.heap.size 4 (bv (fillA (rowF W f vs.length) false W 0)).toArray) := Lib.hid (by
        rw [hwm, fill_zero]; exact Blk.fresh' (by simp))
      have HR1 : Hid (∀ i, i < vs.length → RdB wm 4 wr.heap.size (vs.getD i undef) (bv (rowF W f i))) := Lib.hid (fun i hi => by
        rw [hwm]
        exact ((HR.out i hi).rdB.far (p := ⟨w0.heap.size, vs.length, none⟩) HG.out (by decide) _).below ((Below.refl _ _).alloc (by simp) _))
      have HW1 : Hid (Below w0.heap.size w0 wm) := Lib.hid (by
        rw [hwm]; exact bal (HW.out.setCell (p := ⟨w0.heap.size, vs.length, none⟩) (Nat.le_refl _) _) _)
      have cG3 : ((wr.setCell ⟨w0.heap.size, vs.length, none⟩ (.slice (some ⟨wr.heap.size, 0, none⟩) W W)).alloc (.cells (bv (List.replicate W false)).toArray 4)).cell? ⟨w0.heap.size, vs.length, none⟩ = some (.slice (some ⟨wr.heap.size, 0, none⟩) W W) := by
        rw [← hwm, HG1.out.cell]; exact padV_last _ _ _
      have HWM := Lib.hid hwm.symm; clear hwm HGa HG HR
      have hrl : (rowF W f vs.length).length = W := rowF_len _ _ _
      have hsz0 := HW.out.size
      have hfin : ∀ wi, Blk wi wr.heap.size 4 (bv (rowF W f vs.length)).toArray → Below wr.heap.size wm wi →
          Blk wi w0.heap.size 29 (padV (vs ++ [.slice (some ⟨wr.heap.size, 0, none⟩) W W]) H).toArray ∧
          (∀ i, i < vs.length + 1 → RdT wi 4 ((vs ++ [Value.slice (some ⟨wr.heap.size, 0, none⟩) W W]).getD i undef) (bv (rowF W f i))) ∧ Below w0.heap.size w0 wi := fun wi h1 h2 => by
        refine ⟨HG1.out.below h2 hglt, fun i hi => ?_, HW1.out.trans (h2.mono hsz0)⟩
        rcases Nat.lt_or_ge i vs.length with hiv | hiv
        · rw [getD_snoc_lo _ _ _ _ hiv]
          exact ((HR1.out i hiv).below h2).rdT
        · obtain rfl : i = vs.length := by omega
          rw [getD_snoc]
          exact RdT.of_blk h1 (by rw [bv_len, rowF_len]) (by rw [bv_len, rowF_len]; exact Nat.le_refl _) (by unfold maxLen; omega)
      have HFin := Lib.hid hfin; clear hfin
      have hra := fun x hx => rowF_at W f vs.length x hx
      obtain ⟨hpl, hgl⟩ := HM.out.blt
      have HMm := Lib.hid ((HM.out.up HW1.out))
      have hp9 : p < wr.heap.size := by omega
      have hg9 : g < wr.heap.size := by omega
      generalize rowF W f vs.length = row at *
      have HRA := Lib.hid hra; clear hra
      go_wp2_with fail
      rw [HWM.out]
      clear cG3 cG fG
      go_loopw [25] (fun xv wi => ∃ (x : Nat), x ≤ W ∧ xv = .int .i64 x ∧ Hid (Blk wi wr.heap.size 4 (bv (fillA row false W x)).toArray) ∧ Hid (Below wr.heap.size wm wi)) (fun xv _ => W - (intOf xv).toNat)
      case atStart => exact ⟨0, Nat.zero_le _, rfl, HB1, Lib.hid (Below.refl _ _)⟩
      case round =>
        rename World => wi
        obtain ⟨x, hx, rfl, HBx, HWx⟩ := hrel
        by_cases hxl : x < W
        · have hxr : x < row.length := by omega
          have hset := fill_set row false W x hxr (by omega)
          have hrx := HRA.out x hxr
          rw [hrx] at hset
          have cG2 : wi.cell? ⟨w0.heap.size, vs.length, none⟩ = some (.slice (some ⟨wr.heap.size, 0, none⟩) W W) := by
            rw [(HG1.out.below HWx.out hglt).cell]; exact padV_last _ _ _
          have cO : wi.cell? ⟨wr.heap.size, x, none⟩ = some (.bool false) := by
            rw [HBx.out.cell, List.getElem?_toArray]
            unfold bv
            rw [List.getElem?_map, fill_at_k row false W x hxl (by omega)]; rfl
          have fO : wi.frozen? ⟨wr.heap.size, x, none⟩ = false := HBx.out.frozen _
          have hG := fun a ha => matGet_any p g W H x vs.length f a ha hxl hlt hW4 hH4
          have HMi := Lib.hid (HMm.out.below HWx.out hp9 hg9)
          generalize f x vs.length = bb at *
          have HGt := Lib.hid hG; clear hG
          have HN := Lib.hid (HBx.out.drew.put x (.bool bb))
          have HWn := Lib.hid (HWx.out.drew.setCell (p := ⟨wr.heap.size, x, none⟩) (Nat.le_refl _) (.bool bb))
          rw [bv_set, hset] at HN
          clear hset hrx
          go_wp2
          refine Can.wp_region_can (fun w' => w'.cell? ⟨w0.heap.size, vs.length, none⟩ = some (.slice (some ⟨wr.heap.size, 0, none⟩) W W) ∧ w'.cell? ⟨wr.heap.size, x, none⟩ = some (.bool false) ∧ w'.frozen? ⟨wr.heap.size, x, none⟩ = false) 10 [0, 1, 2, 3, 4, 5, 6, 7, 8, 9, 10] (by kernel_rfl) (by kernel_rfl) (fun _ _ d _ _ h => by cases d <;> exact h) ⟨cG2, cO, fO⟩ (fun hHeld => ?_)
          repeat (refine Can.can_pure (v := ?_) rfl rfl (Or.inl ⟨by rfl, ?_⟩) ?_; rotate_left; (focus ((intro w hSw); (try dsimp only at hSw); go_simp; (try with_reducible rfl))); (try simp only [Act.put, List.getElem_toArray, List.getElem_cons_succ, List.getElem_cons_zero, List.setIfInBounds_toArray, List.set_cons_zero, List.set_cons_succ]))
          refine Can.can_eff rfl rfl (by rfl) (fun K hK => ?_)
          go_simp
          refine (HGt.out _ (HMi.out.up (bdr (brf _)))).mono ?_
          rintro e w5 ⟨rfl, rfl⟩
          refine hK.out _ _ hHeld (fun hHeld1 => ?_)
          clear hK K
          (try simp only [Act.put, List.getElem_toArray, List.getElem_cons_succ, List.getElem_cons_zero, List.setIfInBounds_toArray, List.set_cons_zero, List.set_cons_succ])
          repeat (refine Can.can_pure (v := ?_) rfl rfl (Or.inl ⟨by rfl, ?_⟩) ?_; rotate_left; (focus ((intro w hSw); (try dsimp only at hSw); go_simp; (try with_reducible rfl))); (try simp only [Act.put, List.getElem_toArray, List.getElem_cons_succ, List.getElem_cons_zero, List.setIfInBounds_toArray, List.set_cons_zero, List.set_cons_succ]))
          have f1 := hHeld1.2.2
          have c3 := hHeld1.2.1
          refine Can.can_tail rfl rfl (by rfl) (fun K hK => ?_)
          go_simp
          refine hK.out _ _ ?_
          clear hK K
          clear hHeld hHeld1 f1 c3 cG2 cO fO
          go_wp2
          go_roundw
          case rel => exact ⟨x + 1, by omega, by go_num, HN, HWn⟩
          case measure => simp [intOf]; omega
        · obtain rfl : x = W := by omega
          have hB2 : Blk wi wr.heap.size 4 (bv row).toArray := by
            have := HBx.out
            have e := fill_full row false
            rw [hrl] at e
            rw [e] at this; exact this
          obtain ⟨q1, q2, q3⟩ := HFin.out wi hB2 HWx.out
          have HQ1 := Lib.hid q1; have HQ2 := Lib.hid q2; have HQ3 := Lib.hid q3
          clear q1 q2 q3 hB2
          go_wp2
          go_roundw
          case rel => exact ⟨vs.length + 1, _, by omega, by simp, by simp, by go_num, HQ1, HQ2, HQ3⟩
          case measure => simp [intOf]; omega
    · obtain rfl : y = H := by omega
      have hvl : vs.length = y := by omega
      go_wp2
      go_ret
      refine ⟨_, rfl, Nat.le_refl _, ⟨vs, ?_, hvl, ?_, ?_⟩, HW.out⟩
      · have := HG.out
        rw [← hvl, padV_full] at this
        exact this
      · rw [rowsF_len]
      · intro i hi
        rw [rowsF_len] at hi
        rw [rowsF_at _ _ _ _ hi]
        exact HR.out i hi
theorem rowsOf_any (p g W H : Nat) (f : Nat → Nat → Bool) (w : World) (hm : MatAt w p g W H f) (hW4 : W ≤ 4096) (hH4 : H ≤ 4096) :
    Calls Try.prog 44 #[.pointer (some ⟨p, 0, none⟩)] w fun e w' => ∃ v, e = .returned v ∧ RowsT w' v (rowsF W H f) ∧ Below w.heap.size w w' :=
  (rowsOfB_any p g W H f w hm hW4 hH4).mono (by
    rintro e w' ⟨b, rfl, -, hr, hb⟩
    exact ⟨_, rfl, hr.rowsT hH4, hb⟩)
end Go.Proofs.Ytcldipbboidjbaa
