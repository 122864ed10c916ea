/-
  WALKS: NewDefaultPlacement, GetBit, impl.DMPlace.
-/
import Derived.Test.YtknipefcihkofaaDp5
import Derived.Test.YtknipefcihkofaaRw
namespace Go.Proofs.Ytknipefcihkofaa
open Go.RowKit

theorem PlD.below' {w w' : World} {p g rows cols B : Nat} {cv : Value} {D : Nat → Int} (h : PlD w p g rows cols cv D) (hb : Below B w w') (hp : p < B) (hg : g < B) : PlD w' p g rows cols cv D := ⟨h.head.below hb hp, h.bits.below hb hg⟩
set_option maxRecDepth 100000 in
theorem getBit_any (p g rows cols : Nat) (cv : Value) (D : Nat → Int) (r c : Nat) (w : World) (h : PlD w p g rows cols cv D) (hr : r < rows) (hc : c < cols) (hR : rows ≤ 200) (hC : cols ≤ 200) :
    Calls Try.prog 23 #[.pointer (some ⟨p, 0, none⟩), .int .i64 (c : Nat), .int .i64 (r : Nat)] w fun e w' => e = .returned (.bool (D (r * cols + c) == 1)) ∧ w' = w.drew := by
  have c2 : w.cell? ⟨p, 2, none⟩ = some (.int .i64 cols) := by rw [h.head.cell]; rfl
  have c3 : w.cell? ⟨p, 3, none⟩ = some (.slice (some ⟨g, 0, none⟩) (rows * cols) (rows * cols)) := by rw [h.head.cell]; rfl
  have hlt := mul_lt hr hc
  have hcell : w.cell? ⟨g, r * cols + c, none⟩ = some (.int .i8 (D (r * cols + c))) := by rw [h.bits.cell]; exact dV_at _ _ _ hlt
  have hmax : rows * cols ≤ 200 * 200 := Nat.mul_le_mul hR hC
  obtain ⟨q, hq⟩ : ∃ q, q = r * cols := ⟨_, rfl⟩
  have s1 : (r : Int) * (cols : Int) = (q : Int) := by rw [hq]; simp
  rw [← hq] at hlt hcell ⊢
  obtain ⟨N, hN⟩ : ∃ N, N = rows * cols := ⟨_, rfl⟩
  rw [← hN] at hlt c3 hmax
  obtain ⟨i, hi⟩ : ∃ i, i = q + c := ⟨_, rfl⟩
  have s2 : (q : Int) + (c : Int) = (i : Int) := by omega
  rw [← hi] at hlt hcell ⊢
  have s3 : IntKind.i64.wrap (q : Int) = (q : Int) := by rw [IntKind.wrap_i64]; omega
  have s4 : IntKind.i64.wrap (i : Int) = (i : Int) := by rw [IntKind.wrap_i64]; omega
  generalize D i = x at *
  clear h hq hN hi
  go_enter Try.func23, Try.ntmps23
  go_wp2_with fail
  refine Can.wp_region_can (fun w' => w'.cell? ⟨p, 2, none⟩ = some (.int .i64 cols) ∧ w'.cell? ⟨p, 3, none⟩ = some (.slice (some ⟨g, 0, none⟩) N N) ∧ w'.cell? ⟨g, i, none⟩ = some (.int .i8 x)) 999 [0, 1, 2, 3, 4, 5, 6, 7, 8, 9, 10, 11, 12, 13, 14, 15] (by kernel_rfl) (by kernel_rfl) (fun _ _ d _ _ h => by cases d <;> exact h) ⟨c2, c3, hcell⟩ (fun hHeld => ?_)
  repeat (refine Can.can_pure (v := ?_) rfl rfl (Or.inl ⟨by rfl, ?_⟩) ?_; rotate_left; (focus ((intro w hSw); (try dsimp only at hSw); go_simp; (try with_reducible rfl))); (try simp only [Act.put, List.getElem_toArray, List.getElem_cons_succ, List.getElem_cons_zero, List.setIfInBounds_toArray, List.set_cons_zero, List.set_cons_succ]))
  refine Can.can_done ?_
  clear hHeld
  go_wp2
  go_ret
  exact ⟨rfl, rfl⟩
theorem info_i8 : (Try.prog.info? 55).map (fun i => (i.zero, i.size, i.bytes)) = some (some (.int .i8 0), 1, 1) := by kernel_rfl
theorem v8_set (l : List Int) (i : Nat) (x : Int) : (vals .i8 l).toArray.setIfInBounds i (.int .i8 x) = (vals .i8 (l.set i x)).toArray := by simp [vals, List.map_set]
theorem v8_rep (n : Nat) : rep n (.int .i8 0) = (vals .i8 (List.replicate n 0)).toArray := by simp [rep, vals]
theorem modV_neg (ws : List UInt8) (N : Nat) : modV ws (fun _ => -1) N = vals .i8 (List.replicate N (-1)) := by
  unfold modV vals
  apply List.ext_getElem
  · simp
  · intro i h1 h2; simp [cellM]
theorem info_u8' : (Try.prog.info? 5).map (fun i => (i.zero, i.size, i.bytes)) = some (some (.int .u8 0), 1, 1) := by kernel_rfl
set_option maxRecDepth 100000 in
theorem newPlace_any (rows cols n : Nat) (cv : Value) (ws : List UInt8) (w : World) (hc : RdT w 5 cv (bl ws)) (hn : ws.length = n) (hR : rows ≤ 200) (hC : cols ≤ 200) :
    Calls Try.prog 21 #[cv, .int .i64 cols, .int .i64 rows] w fun e w' => ∃ p g, e = .returned (.pointer (some ⟨p, 0, none⟩)) ∧ PlAt w' p g rows cols n cv ws (fun _ => -1) ∧ w.heap.size ≤ g ∧ Below w.heap.size w w' := by
  obtain ⟨cA, cn, cc, rfl⟩ : ∃ A n c, cv = .slice A n c := by obtain ⟨A, c, h, _⟩ := hc; exact ⟨_, _, _, h⟩
  have HC := Lib.hid hc
  have hmax : rows * cols ≤ 200 * 200 := Nat.mul_le_mul hR hC
  obtain ⟨N, hN⟩ : ∃ N, N = rows * cols := ⟨_, rfl⟩
  have s1 : (cols : Int) * (rows : Int) = (N : Int) := by rw [hN, Int.natCast_mul, Int.mul_comm]
  rw [← hN] at hmax
  have HN := Lib.hid hN
  have HNN := Lib.hid hn
  clear hc hN hn
  have hmk := fun a => run_mk (P := Try.prog) 52 55 (.int .i8 0) 1 Try.underlying52 info_i8 rfl N (by omega) (by omega) a
  rw [v8_rep] at hmk
  go_enter Try.func21, Try.ntmps21
  go_wp2_with fail
  clear hmk s1
  obtain ⟨g, hg⟩ : ∃ g, g = w.heap.size := ⟨_, rfl⟩
  have HG := Lib.hid hg
  rw [← hg]
  clear hg
  go_loopw [23] (fun iv wr => ∃ (i : Nat), i ≤ N ∧ iv = .int .i64 i ∧ Hid (Blk wr g 55 (vals .i8 (fillA (List.replicate N (-1 : Int)) 0 N i)).toArray) ∧ Hid (Blk wr (g + 1) 54 #[.slice cA cn cc, .int .i64 rows, .int .i64 cols, .slice (some ⟨g, 0, none⟩) N N]) ∧ Hid (Below g w wr)) (fun iv _ => N - (intOf iv).toNat)
  case atStart => exact ⟨0, Nat.zero_le _, rfl, Lib.hid (by rw [fill_zero, HG.out]; exact (Blk.fresh w _ _).alloc _), Lib.hid (Blk.fresh' (by simp [HG.out])), Lib.hid (by rw [HG.out]; exact bal (bal (brf w) _) _)⟩
  case round =>
    obtain ⟨i, hi, rfl, HK, HP, HB⟩ := hrel
    by_cases hil : i < N
    · have hl : i < (List.replicate N (-1 : Int)).length := by simpa using hil
      have hset := fill_set (List.replicate N (-1 : Int)) 0 N i hl (by simp)
      rw [List.getElem_replicate] at hset
      have cO : wr.cell? ⟨g, i, none⟩ = some (.int .i8 0) := by
        rw [HK.out.cell, List.getElem?_toArray]
        unfold vals
        rw [List.getElem?_map, fill_at_k (List.replicate N (-1 : Int)) 0 N i hil (by simp; omega)]; rfl
      have fO := HK.out.frozen i
      have c3 : wr.cell? ⟨g + 1, 3, none⟩ = some (.slice (some ⟨g, 0, none⟩) N N) := by rw [HP.out.cell]; rfl
      have HKn : Hid (Blk (wr.setCell ⟨g, i, none⟩ (.int .i8 (-1))) g 55 (vals .i8 (fillA (List.replicate N (-1 : Int)) 0 N (i + 1))).toArray) := Lib.hid (by
        have := HK.out.put i (.int .i8 (-1))
        rw [v8_set, hset] at this; exact this)
      have HPn := Lib.hid (HP.out.far (p := ⟨g, i, none⟩) (by simp) (.int .i8 (-1)))
      have HBn := Lib.hid (HB.out.setCell (p := ⟨g, i, none⟩) (Nat.le_refl _) (.int .i8 (-1)))
      clear hset
      go_wp2
      go_roundw
      case rel => exact ⟨i + 1, by omega, by go_num, HKn, HPn, HBn⟩
      case measure => simp [intOf] <;> omega
    · have he : N = i := by omega
      subst he
      have hfull : Blk wr g 55 (modV ws (fun _ => -1) N).toArray := by
        have h1 := HK.out
        have e := fill_full (List.replicate N (-1 : Int)) 0
        rw [List.length_replicate] at e
        rw [e] at h1
        rw [modV_neg]; exact h1
      have HF := Lib.hid hfull
      have HBW : Hid (Below w.heap.size w wr) := Lib.hid (by have := HB.out; rw [HG.out] at this; exact this)
      clear hfull HK HB
      go_wp2
      go_ret
      refine ⟨g + 1, g, rfl, ⟨?_, HC.out.up HBW.out, HNN.out, ?_⟩, by rw [HG.out]; exact Nat.le_refl _, HBW.out⟩
      · have h1 := HP.out
        rw [HN.out] at h1; exact h1
      · have h1 := HF.out
        rw [HN.out] at h1; exact h1
set_option maxRecDepth 100000 in
set_option maxHeartbeats 2000000 in
theorem dmPlace_any (n rows cols k : Nat) (v : Value) (ws : List UInt8) (Me : Mod) (w : World) (hv : Rd w w.heap.size v (bl ws)) (hn : ws.length = n) (hs : sweepG modHas modSet n rows cols (rows + cols) 4 0 (0, fun _ => -1) = some (k, Me)) (hR : rows ≤ 200) (hC : cols ≤ 200) (hR6 : 6 ≤ rows) (hC6 : 6 ≤ cols) (hn1 : n ≤ 100000) :
    Calls Try.prog 17 #[v, .int .i64 cols, .int .i64 rows] w fun e w' => ∃ v', e = .returned v' ∧ RowsT w' v' (rowsF cols rows fun x y => lastD ws rows cols Me (y * cols + x) == 1) ∧ Below w.heap.size w w' := by
  obtain ⟨i0, hi0, hz0, hz1, hz2⟩ := info_parts info_u8'
  obtain ⟨vA, vn, vc, rfl⟩ : ∃ A n c, v = .slice A n c := by obtain ⟨A, c, h, _⟩ := hv; exact ⟨_, _, _, h⟩
  have HV := Lib.hid hv; have HS := Lib.hid hs; have HNN := Lib.hid hn
  have hlb : (bl ws).length = n := by rw [bl_len, hn]
  have HLB := Lib.hid hlb
  clear hv hs hn hlb
  have hmk := fun a => mk_rows rows a (by omega)
  have hmkb := fun a => mk_bools cols a (by omega)
  go_enter Try.func17, Try.ntmps17
  go_wp2_with (with_reducible refine stop_at (o := ⟨some 12, _, _, _, _, _⟩) ?_)
  refine Lib.hid ?_
  refine list_app_rd _ rfl _ _ 25 rfl w.heap.size 5 i0 _ 1 Try.underlying25 hi0 hz0 hz1 hz2 rfl _ 0 [] rfl (own_nil _ _ _) _ _ (bl ws) rfl HV.out (bl_one _) (by rw [HLB.out]; unfold maxLen; omega) (by rw [HLB.out]; omega) (Nat.le_refl _) ?_
  intro v1 w1 ho1 hg1
  rw [List.nil_append] at ho1
  have HR1 := Lib.hid (RdT.of_own ho1)
  have HB1 : Hid (Below w.heap.size w w1) := Lib.hid (below_grown (brf w) hg1 (own_nil w w.heap.size 5) (Nat.le_refl _))
  clear ho1 hg1
  go_wp2_with fail
  refine (newPlace_any rows cols n v1 ws _ HR1.out HNN.out hR hC).mono ?_
  rintro e w2 ⟨p, g, rfl, hp, hg, hb⟩
  have HP := Lib.hid hp; have HG := Lib.hid hg; have HB2 := Lib.hid (bup HB1.out hb)
  clear hp hg hb
  go_wp2_with fail
  refine (place_any p g rows cols n v1 ws _ k Me _ HP.out HS.out hR hC hR6 hC6 hn1).mono ?_
  rintro e w0 ⟨rfl, hd, hk⟩
  have HM := Lib.hid hd
  have HB0 : Hid (Below w.heap.size w w0) := Lib.hid (HB2.out.trans (hk.2 _ (Nat.le_trans HB1.out.size HG.out)))
  clear hd hk
  obtain ⟨D, hD⟩ : ∃ D, D = lastD ws rows cols Me := ⟨_, rfl⟩
  obtain ⟨f, hf⟩ : ∃ f : Nat → Nat → Bool, f = fun x y => D (y * cols + x) == 1 := ⟨_, rfl⟩
  rw [← hD] at HM
  have HF8 : Hid ((fun x y => lastD ws rows cols Me (y * cols + x) == 1) = f) := Lib.hid (by rw [hf, hD])
  have HF9 := Lib.hid hf
  clear hD hf
  obtain ⟨cv, hcv⟩ : ∃ cv, cv = v1 := ⟨_, rfl⟩
  rw [← hcv] at HM
  clear hcv
  go_wp2_with fail
  clear hmk
  go_loopw [22] (fun yv wr => ∃ (y : Nat) (vs : List Value), y ≤ rows ∧ vs.length ≤ y ∧ y ≤ vs.length ∧ yv = .int .i64 y ∧ Hid (Blk wr w0.heap.size 43 (padV vs rows).toArray) ∧
    Hid (∀ i, i < y → RdT wr 4 (vs.getD i undef) (bv (rowF cols f i))) ∧ Hid (Below w0.heap.size w0 wr)) (fun yv _ => rows - (intOf yv).toNat)
  case atStart => exact ⟨0, [], Nat.zero_le _, Nat.le_refl _, Nat.zero_le _, rfl, Lib.hid (by unfold padV; exact Blk.fresh w0 _ _), Lib.hid (fun i hi => absurd hi (Nat.not_lt_zero _)), Lib.hid (bal (brf w0) _)⟩
  case round =>
    obtain ⟨y, vs, hy, hy1, hy2, rfl, HG, HR, HW⟩ := hrel
    by_cases hlt : y < rows
    · obtain rfl : y = vs.length := by omega
      have hglt := HG.out.lt
      have HGa := HG.out.alloc (.cells (bv (List.replicate cols false)).toArray 4)
      have cG : (wr.alloc (.cells (bv (List.replicate cols false)).toArray 4)).cell? ⟨w0.heap.size, vs.length, none⟩ = some (.slice none 0 0) := by
        rw [HGa.cell]; exact padV_at vs rows hlt
      have fG : (wr.alloc (.cells (bv (List.replicate cols false)).toArray 4)).frozen? ⟨w0.heap.size, vs.length, none⟩ = false := HGa.frozen _
      obtain ⟨wm, hwm⟩ : ∃ wm, wm = (wr.setCell ⟨w0.heap.size, vs.length, none⟩ (.slice (some ⟨wr.heap.size, 0, none⟩) cols cols)).alloc (.cells (bv (List.replicate cols false)).toArray 4) := ⟨_, rfl⟩
      have HG1 : Hid (Blk wm w0.heap.size 43 (padV (vs ++ [.slice (some ⟨wr.heap.size, 0, none⟩) cols cols]) rows).toArray) := Lib.hid (by
        rw [hwm, ← padV_set _ _ _ hlt]; exact (HG.out.put _ _).alloc _)
      have HB1 : Hid (Blk wm wr.heap.size 4 (bv (fillA (rowF cols f vs.length) false cols 0)).toArray) := Lib.hid (by
        rw [hwm, fill_zero]; exact Blk.fresh' (by simp))
      have HR1 : Hid (∀ i, i < vs.length → RdB wm 4 wr.heap.size (vs.getD i undef) (bv (rowF cols f i))) := Lib.hid (fun i hi => by
        rw [hwm]
        exact ((HR.out i hi).rdB.far (p := ⟨w0.heap.size, vs.length, none⟩) HG.out (by decide) _).below ((Below.refl _ _).alloc (by simp) _))
      have HW1 : Hid (Below w0.heap.size w0 wm) := Lib.hid (by
        rw [hwm]; exact bal (HW.out.setCell (p := ⟨w0.heap.size, vs.length, none⟩) (Nat.le_refl _) _) _)
      have cG3 : ((wr.setCell ⟨w0.heap.size, vs.length, none⟩ (.slice (some ⟨wr.heap.size, 0, none⟩) cols cols)).alloc (.cells (bv (List.replicate cols false)).toArray 4)).cell? ⟨w0.heap.size, vs.length, none⟩ = some (.slice (some ⟨wr.heap.size, 0, none⟩) cols cols) := by
        rw [← hwm, HG1.out.cell]; exact padV_last _ _ _
      have HWM := Lib.hid hwm.symm; clear hwm HGa HG HR
      have hrl : (rowF cols f vs.length).length = cols := rowF_len _ _ _
      have hsz0 := HW.out.size
      have hfin : ∀ wi, Blk wi wr.heap.size 4 (bv (rowF cols f vs.length)).toArray → Below wr.heap.size wm wi →
          Blk wi w0.heap.size 43 (padV (vs ++ [.slice (some ⟨wr.heap.size, 0, none⟩) cols cols]) rows).toArray ∧
          (∀ i, i < vs.length + 1 → RdT wi 4 ((vs ++ [Value.slice (some ⟨wr.heap.size, 0, none⟩) cols cols]).getD i undef) (bv (rowF cols f i))) ∧ Below w0.heap.size w0 wi := fun wi h1 h2 => by
        refine ⟨HG1.out.below h2 hglt, fun i hi => ?_, HW1.out.trans (h2.mono hsz0)⟩
        rcases Nat.lt_or_ge i vs.length with hiv | hiv
        · rw [getD_snoc_lo _ _ _ _ hiv]
          exact ((HR1.out i hiv).below h2).rdT
        · obtain rfl : i = vs.length := by omega
          rw [getD_snoc]
          exact RdT.of_blk h1 (by rw [bv_len, rowF_len]) (by rw [bv_len, rowF_len]; exact Nat.le_refl _) (by unfold maxLen; omega)
      have HFin := Lib.hid hfin; clear hfin
      have hra := fun x hx => rowF_at cols f vs.length x hx
      have hpl := HM.out.head.lt
      have hgl := HM.out.bits.lt
      have HMm := Lib.hid ((HM.out.up HW1.out))
      have hp9 : p < wr.heap.size := by omega
      have hg9 : g < wr.heap.size := by omega
      generalize rowF cols f vs.length = row at *
      have HRA := Lib.hid hra; clear hra
      go_wp2_with fail
      rw [HWM.out]
      clear cG3 cG fG
      go_loopw [35] (fun xv wi => ∃ (x : Nat), x ≤ cols ∧ xv = .int .i64 x ∧ Hid (Blk wi wr.heap.size 4 (bv (fillA row false cols x)).toArray) ∧ Hid (Below wr.heap.size wm wi)) (fun xv _ => cols - (intOf xv).toNat)
      case atStart => exact ⟨0, Nat.zero_le _, rfl, HB1, Lib.hid (Below.refl _ _)⟩
      case round =>
        rename World => wi
        obtain ⟨x, hx, rfl, HBx, HWx⟩ := hrel
        by_cases hxl : x < cols
        · have hxr : x < row.length := by omega
          have hset := fill_set row false cols x hxr (by omega)
          have hrx := HRA.out x hxr
          rw [hrx] at hset
          have cG2 : wi.cell? ⟨w0.heap.size, vs.length, none⟩ = some (.slice (some ⟨wr.heap.size, 0, none⟩) cols cols) := by
            rw [(HG1.out.below HWx.out hglt).cell]; exact padV_last _ _ _
          have cO : wi.cell? ⟨wr.heap.size, x, none⟩ = some (.bool false) := by
            rw [HBx.out.cell, List.getElem?_toArray]
            unfold bv
            rw [List.getElem?_map, fill_at_k row false cols x hxl (by omega)]; rfl
          have fO : wi.frozen? ⟨wr.heap.size, x, none⟩ = false := HBx.out.frozen _
          have hG := fun a ha => getBit_any p g rows cols cv D vs.length x a ha hlt hxl hR hC
          rw [show (D (vs.length * cols + x) == 1) = f x vs.length by rw [HF9.out]] at hG
          have HMi := Lib.hid (HMm.out.below' HWx.out hp9 hg9)
          generalize f x vs.length = bb at *
          have HGt := Lib.hid hG; clear hG
          have HN := Lib.hid (HBx.out.drew.put x (.bool bb))
          have HWn := Lib.hid (HWx.out.setCell (p := ⟨wr.heap.size, x, none⟩) (Nat.le_refl _) (.bool bb)).drew.drew
          rw [bv_set, hset] at HN
          clear hset hrx
          go_wp2
          refine Can.wp_region_can (fun w' => w'.cell? ⟨w0.heap.size, vs.length, none⟩ = some (.slice (some ⟨wr.heap.size, 0, none⟩) cols cols) ∧ w'.cell? ⟨wr.heap.size, x, none⟩ = some (.bool false) ∧ w'.frozen? ⟨wr.heap.size, x, none⟩ = false) 10 [0, 1, 2, 3, 4, 5, 6, 7, 8, 9, 10] (by kernel_rfl) (by kernel_rfl) (fun _ _ d _ _ h => by cases d <;> exact h) ⟨cG2, cO, fO⟩ (fun hHeld => ?_)
          repeat (refine Can.can_pure (v := ?_) rfl rfl (Or.inl ⟨by rfl, ?_⟩) ?_; rotate_left; (focus ((intro w hSw); (try dsimp only at hSw); go_simp; (try with_reducible rfl))); (try simp only [Act.put, List.getElem_toArray, List.getElem_cons_succ, List.getElem_cons_zero, List.setIfInBounds_toArray, List.set_cons_zero, List.set_cons_succ]))
          refine Can.can_eff rfl rfl (by rfl) (fun K hK => ?_)
          go_simp
          refine (HGt.out _ (HMi.out.up (bdr (brf _)))).mono ?_
          rintro e w5 ⟨rfl, rfl⟩
          refine hK.out _ _ hHeld (fun hHeld1 => ?_)
          clear hK K
          (try simp only [Act.put, List.getElem_toArray, List.getElem_cons_succ, List.getElem_cons_zero, List.setIfInBounds_toArray, List.set_cons_zero, List.set_cons_succ])
          repeat (refine Can.can_pure (v := ?_) rfl rfl (Or.inl ⟨by rfl, ?_⟩) ?_; rotate_left; (focus ((intro w hSw); (try dsimp only at hSw); go_simp; (try with_reducible rfl))); (try simp only [Act.put, List.getElem_toArray, List.getElem_cons_succ, List.getElem_cons_zero, List.setIfInBounds_toArray, List.set_cons_zero, List.set_cons_succ]))
          have f1 := hHeld1.2.2
          have c3 := hHeld1.2.1
          refine Can.can_tail rfl rfl (by rfl) (fun K hK => ?_)
          go_simp
          refine hK.out _ _ ?_
          clear hK K
          clear hHeld hHeld1 f1 c3 cG2 cO fO
          go_wp2
          go_roundw
          case rel => exact ⟨x + 1, by omega, by go_num, HN, HWn⟩
          case measure => simp [intOf]; omega
        · obtain rfl : x = cols := by omega
          have hB2 : Blk wi wr.heap.size 4 (bv row).toArray := by
            have := HBx.out
            have e := fill_full row false
            rw [hrl] at e
            rw [e] at this; exact this
          obtain ⟨q1, q2, q3⟩ := HFin.out wi hB2 HWx.out
          have HQ1 := Lib.hid q1; have HQ2 := Lib.hid q2; have HQ3 := Lib.hid q3
          clear q1 q2 q3 hB2
          go_wp2
          go_roundw
          case rel => exact ⟨vs.length + 1, _, by omega, by simp, by simp, by go_num, HQ1, HQ2, HQ3⟩
          case measure => simp [intOf]; omega
    · have hye : rows = y := by omega
      subst hye
      have hvl : vs.length = rows := by omega
      go_wp2
      go_ret
      rw [HF8.out]
      refine ⟨_, rfl, ⟨vs, ?_, ?_, ?_⟩, bup HB0.out HW.out⟩
      · have := HG.out
        rw [← hvl, padV_full] at this
        exact RdT.of_blk this (by omega) (by omega) (by unfold maxLen; omega)
      · rw [rowsF_len]; exact hvl
      · intro i hi
        rw [rowsF_len] at hi
        rw [rowsF_at _ _ _ _ hi]
        exact HR.out i hi
end Go.Proofs.Ytknipefcihkofaa
