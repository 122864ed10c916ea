/-
  WALKS: spec.DMMap.
-/
import Derived.Test.YtknipefcihkofaaDs4
import Derived.Test.YtknipefcihkofaaFill
import Derived.Deep.LoopGhost
import Derived.Deep.DeepCutAuto
import Derived.Deep.CutBlock
namespace Go.Proofs.Ytknipefcihkofaa
open Go.RowKit

theorem info_ints : (Try.prog.info? 27).map (fun i => (i.zero, i.size, i.bytes)) = some (some (.slice none 0 0), 1, 24) := by kernel_rfl
theorem info_int : (Try.prog.info? 3).map (fun i => (i.zero, i.size, i.bytes)) = some (some (.int .i64 0), 1, 8) := by kernel_rfl
/-- k rows have been made. -/
structure RowsUp (w0 : World) (q rows cols k : Nat) (wr : World) : Prop where
  ex : ∃ (v : Value) (gr : Nat → Nat), Blk wr q 61 #[.int .i64 rows, .int .i64 cols, .int .i64 0, v] ∧ wr.ownsRow (q + 1) 27 1 v k (rowS gr k cols) ∧ (∀ r, r < k → Blk wr (gr r) 3 (rowI (fun _ => -1) r cols).toArray) ∧ (∀ r, r < k → q + 1 ≤ gr r) ∧ (∀ r, r < k → ∀ r', r' < k → gr r = gr r' → r = r')
  below : Below q w0 wr
  size : q + 1 ≤ wr.heap.size
theorem rowI_neg (r cols : Nat) : rowI (fun _ => -1) r cols = vals .i64 (List.replicate cols (-1)) := by
  unfold rowI vals
  apply List.ext_getElem
  · simp
  · intro i h1 h2; simp
theorem vals_set (l : List Int) (i : Nat) (x : Int) : (vals .i64 l).toArray.setIfInBounds i (.int .i64 x) = (vals .i64 (l.set i x)).toArray := by simp [vals, List.map_set]
theorem vals_rep (n : Nat) : rep n (.int .i64 0) = (vals .i64 (List.replicate n 0)).toArray := by simp [rep, vals]
theorem rowS_snoc (gr : Nat → Nat) (k cols g : Nat) : rowS (fun r => if r = k then g else gr r) (k + 1) cols = rowS gr k cols ++ [.slice (some ⟨g, 0, none⟩) cols cols] := by
  unfold rowS
  rw [List.range_succ, List.map_append]
  congr 1
  · apply List.map_congr_left
    intro r hr
    rw [List.mem_range] at hr
    have : ¬ r = k := by omega
    simp only [if_neg this]
  · simp
theorem own_ne {w : World} {base : Nat} {e e' : TypeId} {size n : Nat} {v : Value} {xs : List Value} (h : w.ownsRow base e size v n xs) {g : Nat} {cs : Array Value} (hg : Blk w g e' cs) (he : e ≠ e') : some g ≠ v.ownBlock := by
  rcases h.2 with ⟨rfl, _⟩ | ⟨g', cap, cur, rfl, _, hg', _⟩
  · simp [Value.ownBlock]
  · simp only [Value.ownBlock, ne_eq, Option.some.injEq]
    intro e1
    subst e1
    unfold Blk at hg
    rw [hg] at hg'
    injection hg' with h1
    injection h1 with _ h2
    exact he h2.symm
theorem own_ne' {w : World} {base : Nat} {e : TypeId} {size n : Nat} {v : Value} {xs : List Value} (h : w.ownsRow base e size v n xs) {q : Nat} (hq : q < base) : some q ≠ v.ownBlock := by
  rcases h.2 with ⟨rfl, _⟩ | ⟨g', cap, cur, rfl, hb, _⟩
  · simp [Value.ownBlock]
  · simp only [Value.ownBlock, ne_eq, Option.some.injEq]; omega
theorem own_less' {w : World} {base B : Nat} {e : TypeId} {size n : Nat} {v : Value} {xs : List Value} (h : w.ownsRow base e size v n xs) (hB : B ≤ base) : w.ownsRow B e size v n xs := by
  obtain ⟨h1, h2 | ⟨g, cap, cur, hv, hb, r⟩⟩ := h
  · exact ⟨h1, .inl h2⟩
  · exact ⟨h1, .inr ⟨g, cap, cur, hv, by omega, r⟩⟩
theorem own_far' {w : World} {base : Nat} {e : TypeId} {size n : Nat} {v : Value} {xs : List Value} (h : w.ownsRow base e size v n xs) {p : Addr} (hp : p.block < base) (u : Value) : (w.setCell p u).ownsRow base e size v n xs := by
  obtain ⟨h1, h2 | ⟨g, cap, cur, hv, hb, hg, r⟩⟩ := h
  · exact ⟨h1, .inl h2⟩
  · exact ⟨h1, .inr ⟨g, cap, cur, hv, hb, (Below.heap_setCell w p u g (by omega)).trans hg, r⟩⟩
set_option maxRecDepth 100000 in
set_option maxHeartbeats 8000000 in
theorem map_any (n rows cols : Nat) (k : Nat) (Me : Mod) (w : World) (hs : sweepG modHas modSet n rows cols (rows + cols) 4 0 (0, fun _ => -1) = some (k, Me)) (hR : rows ≤ 200) (hC : cols ≤ 200) (hR6 : 6 ≤ rows) (hC6 : 6 ≤ cols) (hn : n ≤ 100000) :
    Calls Try.prog 24 #[.int .i64 rows, .int .i64 cols] w fun e w' => ∃ v q gr, e = .returned v ∧ SpAt w' q rows cols k v (q + 1) gr Me ∧ Below w.heap.size w w' := by
  obtain ⟨i0, hi0, hz0, hz1, hz2⟩ := info_parts info_ints
  have HS := Lib.hid hs
  clear hs
  have hmk := fun a => run_mk (P := Try.prog) 27 3 (.int .i64 0) 8 Try.underlying27 info_int rfl cols (by omega) (by omega) a
  rw [vals_rep] at hmk
  go_enter Try.func24, Try.ntmps24
  go_wp2_with fail
  obtain ⟨q, hq⟩ : ∃ q, q = w.heap.size := ⟨_, rfl⟩
  have HQ := Lib.hid hq
  rw [← hq]
  clear hq
  go_loopw [17] (fun iv wr => ∃ (r : Nat), r ≤ rows ∧ iv = .int .i64 r ∧ Hid (RowsUp w q rows cols r wr)) (fun iv _ => rows - (intOf iv).toNat)
  case atStart =>
    refine ⟨0, Nat.zero_le _, rfl, Lib.hid ⟨⟨.slice none 0 0, fun _ => 0, by rw [HQ.out]; exact Blk.fresh w _ _, own_nil _ _ _, fun r hr => absurd hr (Nat.not_lt_zero _), fun r hr => absurd hr (Nat.not_lt_zero _), fun r hr => absurd hr (Nat.not_lt_zero _)⟩, by rw [HQ.out]; exact bal (brf w) _, by rw [HQ.out]; simp⟩⟩
  case round =>
    obtain ⟨r, hr, rfl, HU⟩ := hrel
    by_cases hlt : r < rows
    · obtain ⟨G, hG⟩ : ∃ G, G = wr.heap.size := ⟨_, rfl⟩
      have HG := Lib.hid hG
      go_wp2_with fail
      rw [← hG]
      clear hG
      obtain ⟨wm, hwm⟩ : ∃ wm, wm = wr.alloc (.cells (vals .i64 (List.replicate cols 0)).toArray 3) := ⟨_, rfl⟩
      rw [← hwm]
      have HWM := Lib.hid hwm; clear hwm
      go_loopw [23] (fun iv wi => ∃ (i : Nat), i ≤ cols ∧ iv = .int .i64 i ∧ Hid (Blk wi G 3 (vals .i64 (fillA (List.replicate cols (-1 : Int)) 0 cols i)).toArray) ∧ Hid (Below G wm wi)) (fun iv _ => cols - (intOf iv).toNat)
      case atStart => exact ⟨0, Nat.zero_le _, rfl, Lib.hid (by rw [fill_zero, HWM.out, HG.out]; exact Blk.fresh wr _ _), Lib.hid (Below.refl _ _)⟩
      case round =>
        rename World => wi
        obtain ⟨i, hi, rfl, HK, HB⟩ := hrel
        by_cases hil : i < cols
        · have hl : i < (List.replicate cols (-1 : Int)).length := by simpa using hil
          have hset := fill_set (List.replicate cols (-1 : Int)) 0 cols i hl (by simp)
          rw [List.getElem_replicate] at hset
          have cO : wi.cell? ⟨G, i, none⟩ = some (.int .i64 0) := by
            rw [HK.out.cell, List.getElem?_toArray]
            unfold vals
            rw [List.getElem?_map, fill_at_k (List.replicate cols (-1 : Int)) 0 cols i hil (by simp; omega)]; rfl
          have fO := HK.out.frozen i
          have HKn : Hid (Blk (wi.setCell ⟨G, i, none⟩ (.int .i64 (-1))) G 3 (vals .i64 (fillA (List.replicate cols (-1 : Int)) 0 cols (i + 1))).toArray) := Lib.hid (by
            have := HK.out.put i (.int .i64 (-1))
            rw [vals_set, hset] at this; exact this)
          have HBn := Lib.hid (HB.out.setCell (p := ⟨G, i, none⟩) (Nat.le_refl _) (.int .i64 (-1)))
          clear hset
          go_wp2
          go_roundw
          case rel => exact ⟨i + 1, by omega, by go_num, HKn, HBn⟩
          case measure => simp [intOf] <;> omega
        · have he : cols = i := by omega
          subst he
          have hfull : Blk wi G 3 (rowI (fun _ => -1) r cols).toArray := by
            have h1 := HK.out
            have e := fill_full (List.replicate cols (-1 : Int)) 0
            rw [List.length_replicate] at e
            rw [e] at h1
            rw [rowI_neg]; exact h1
          have hbw : Below wr.heap.size wr wi := by
            have h1 := HB.out
            rw [HG.out] at h1
            have h2 : Below wr.heap.size wr wm := by rw [HWM.out]; exact bal (brf _) _
            exact h2.trans h1
          have hqs := HU.out.size
          obtain ⟨v, gr, u1, u2, u3, u4, u5⟩ := HU.out.ex
          have HU1 := Lib.hid (u1.up hbw); have HU2 := Lib.hid (own_up u2 hbw); have HU3 := Lib.hid (fun r' (h : r' < r) => (u3 r' h).up hbw); have HU4 := Lib.hid u4; have HU5 := Lib.hid u5
          have HUL := Lib.hid (fun r' (h : r' < r) => (u3 r' h).lt)
          have HF := Lib.hid hfull
          have HBW := Lib.hid (And.intro (HU.out.below.trans (hbw.mono (by have := HU.out.size; omega))) (Nat.le_trans HU.out.size hbw.size))
          have c3 : wi.cell? ⟨q, 3, none⟩ = some v := by rw [HU1.out.cell]; rfl
          clear u1 u2 u3 u4 u5 hfull hbw HK HB HU
          go_wp2_with (with_reducible refine stop_at (o := ⟨some 37, _, _, _, _, _⟩) ?_)
          refine Lib.hid ?_
          refine list_app_rd _ rfl _ _ 47 rfl (q + 1) 27 i0 _ 24 Try.underlying47 hi0 hz0 hz1 hz2 rfl v r _ rfl (HU2.out.alloc _) _ _ [.slice (some ⟨G, 0, none⟩) cols cols] rfl (Rd.one rfl _ _) (fun u hu => by simp at hu; subst hu; rfl) (by simp only [List.length_singleton]; unfold maxLen; omega) (by simp only [List.length_singleton]; omega) (by have := HBW.out.2; simp; omega) ?_
          intro v1 w3 ho1 hg1
          rw [← rowS_snoc] at ho1
          obtain ⟨A1, n1, cap1, rfl⟩ : ∃ A n c, v1 = .slice A n c := by obtain ⟨A, c, h, _⟩ := RdT.of_own ho1; exact ⟨_, _, _, h⟩
          have hq1 : Blk w3 q 61 #[.int .i64 rows, .int .i64 cols, .int .i64 0, v] := (HU1.out.alloc _).grown hg1 (own_ne' HU2.out (by omega))
          have hG1 : Blk w3 G 3 (rowI (fun _ => -1) r cols).toArray := (HF.out.alloc _).grown hg1 (own_ne HU2.out HF.out (by decide))
          have hI1 : ∀ r', r' < r → Blk w3 (gr r') 3 (rowI (fun _ => -1) r' cols).toArray := fun r' h => ((HU3.out r' h).alloc _).grown hg1 (own_ne HU2.out (HU3.out r' h) (by decide))
          have c3' : w3.cell? ⟨q, 3, none⟩ = some v := by rw [hq1.cell]; rfl
          have f3 := hq1.frozen 3
          have hbe : Below q w w3 := below_grown (HBW.out.1.alloc (by have := HBW.out.2; omega) _) hg1 (own_less' (HU2.out.alloc _) (by omega)) (by have := HBW.out.2; simp; omega)
          have hGlt : G = wr.heap.size := HG.out
          have hgn : ∀ r', r' < r → gr r' ≠ G := fun r' h => by have := HUL.out r' h; omega
          have p1 : ∀ r', r' < r + 1 → Blk (w3.setCell ⟨q, 3, none⟩ (.slice A1 n1 cap1)) (if r' = r then G else gr r') 3 (rowI (fun _ => -1) r' cols).toArray := fun r' h => by
            by_cases e : r' = r
            · subst e; rw [if_pos rfl]; exact hG1.far (p := ⟨q, 3, none⟩) (fun e => blk_neq hq1 hG1 (by decide) e.symm) _
            · rw [if_neg e]; exact (hI1 r' (by omega)).far (p := ⟨q, 3, none⟩) (fun e => blk_neq hq1 (hI1 r' (by omega)) (by decide) e.symm) _
          have p2 : ∀ r', r' < r + 1 → q + 1 ≤ (if r' = r then G else gr r') := fun r' h => by
            by_cases e : r' = r
            · rw [if_pos e, hGlt]; exact hqs
            · rw [if_neg e]; exact HU4.out r' (by omega)
          have p3 : ∀ r1, r1 < r + 1 → ∀ r2, r2 < r + 1 → (if r1 = r then G else gr r1) = (if r2 = r then G else gr r2) → r1 = r2 := fun r1 h1 r2 h2 he => by
            by_cases e1 : r1 = r
            · by_cases e2 : r2 = r
              · omega
              · rw [if_pos e1, if_neg e2] at he; exact absurd he.symm (hgn r2 (by omega))
            · by_cases e2 : r2 = r
              · rw [if_neg e1, if_pos e2] at he; exact absurd he (hgn r1 (by omega))
              · rw [if_neg e1, if_neg e2] at he; exact HU5.out r1 (by omega) r2 (by omega) he
          have HN : Hid (RowsUp w q rows cols (r + 1) (w3.setCell ⟨q, 3, none⟩ (.slice A1 n1 cap1))) := Lib.hid ⟨⟨_, fun r' => if r' = r then G else gr r', hq1.put 3 _, own_far' ho1 (p := ⟨q, 3, none⟩) (by show q < q + 1; omega) _, p1, p2, p3⟩, hbe.setCell (p := ⟨q, 3, none⟩) (Nat.le_refl _) _, by have h9 := hg1.size; have h8 := HBW.out.2; simp at h9 ⊢; omega⟩
          clear ho1 hg1 hq1 hG1 hI1 hbe HU1 HU2 HU3 HU4 HU5 HUL HF HBW c3 p1 p2 p3 hgn hGlt
          go_wp2
          go_roundw
          case rel => exact ⟨r + 1, by omega, by go_num, HN⟩
          case measure => simp [intOf] <;> omega
    · have hre : rows = r := by omega
      subst hre
      clear hmk
      go_wp2_with fail
      -- MAP-A
      obtain ⟨v, gr, u1, u2, u3, u4, u5⟩ := HU.out.ex
      have HSP : Hid (SpAt wr q rows cols 0 v (q + 1) gr (fun _ => -1) ∧ KeptG q w wr) := Lib.hid ⟨⟨u1, RdT.of_own u2, u3, u4, u5⟩, ⟨by have := HU.out.size; have := HQ.out; omega, fun B hB => HU.out.below.mono hB⟩⟩
      obtain ⟨vb, vo, vc, hv, hv1, hv2, hvr⟩ := HSP.out.1.row_ (by omega)
      unfold maxLen at hv2
      have HVR : Hid (∀ (w' : World) (s : Nat × Mod), SpAt w' q rows cols s.1 v (q + 1) gr s.2 → ∀ r, r < rows → w'.cell? ⟨vb, vo + r, none⟩ = some (.slice (some ⟨gr r, 0, none⟩) cols cols)) := Lib.hid (fun w' s hs r hr => by
        obtain ⟨A', cap', hv', _, _, h3'⟩ := hs.outer
        rw [rowS_len] at *
        obtain ⟨b', o', cs', fr', rfl, hh', hc'⟩ := h3' (by omega)
        rw [hv] at hv'
        injection hv' with e1 e2 e3
        injection e1 with e1
        injection e1 with e1 e4 _
        subst e1 e4
        rw [World.cell?, hh']; simpa using hc' r _ (rowS_at gr rows cols r hr))
      subst hv
      obtain ⟨v, hv⟩ : ∃ v, v = Value.slice (some ⟨vb, vo, none⟩) rows vc := ⟨_, rfl⟩
      clear u1 u2 u3 u4 u5 HU hvr
      rw [← hv] at HSP HVR
      have HV := Lib.hid hv
      clear hv
      go_loopg [8, 9] (rows + cols) (fun f rv cv' wr => ∃ (row col : Int) (s : Nat × Mod), rv = .int .i64 row ∧ cv' = .int .i64 col ∧ s.1 ≤ n ∧ Hid (((row < rows ∨ col < cols) ∧ sweepG modHas modSet n rows cols f row col s = some (k, Me)) ∨ (¬ (row < rows ∨ col < cols) ∧ s = (k, Me))) ∧ Hid (SpAt wr q rows cols s.1 v (q + 1) gr s.2 ∧ KeptG q w wr))
      case atStart => exact ⟨4, 0, (0, fun _ => -1), rfl, rfl, Nat.zero_le _, Lib.hid (.inl ⟨.inr (by omega), HS.out⟩), HSP⟩
      case round =>
        clear HSP HS
        rename World => wo
        obtain ⟨row, col, s, rfl, rfl, hsn, HSW, HP⟩ := hrel
        rcases HSW.out with ⟨hgo, hsw⟩ | ⟨hno, hse⟩
        · clear HSW
          obtain ⟨f, rfl⟩ : ∃ f', gk = f' + 1 := by
            cases gk with
            | zero => exact absurd hsw (by rw [sweepG]; simp)
            | succ f => exact ⟨f, rfl⟩
          rw [sweepG] at hsw
          cases hcor : cornersG modSet n rows cols row col s with
          | none => rw [hcor] at hsw; cases hsw
          | some s4 =>
            rw [hcor] at hsw
            simp only at hsw
            have hbd : -8 ≤ row ∧ row ≤ 250 ∧ -8 ≤ col ∧ col ≤ 250 := by
              cases hu : upG modHas modSet n rows cols (rows + cols) row col s4 with
              | none => rw [hu] at hsw; cases hsw
              | some t =>
                rw [show rows + cols = (rows + cols - 1) + 1 by omega, upG] at hu
                cases hp : spotG modHas modSet (decide (row < rows) && decide (0 ≤ col)) n rows cols row col s4 with
                | none => rw [hp] at hu; cases hu
                | some t' => exact (spot_cases (k := s4.1) (M := s4.2) hp).1
            obtain ⟨g1, g2, g3, g4⟩ := hbd
            have hsn4 : s4.1 ≤ n := by
              rcases corners_leaf hcor with ⟨_, _, _, _, h⟩ | ⟨_, h1, t, _, h⟩ | ⟨_, h1, t, _, h⟩ | ⟨_, h1, t, _, h⟩ | ⟨_, h1, t, _, h⟩ <;> rw [h] <;> first | exact hsn | exact h1
            have HCOR := Lib.hid hcor
            have HW := Lib.hid hsw
            clear hcor hsw
            go_upto_region 13 with fail
            go_cut [8, 9, 48] (fun v8 v9 v48 wx => v8 = .int .i64 row ∧ v9 = .int .i64 col ∧ v48 = .bool true ∧ wx = wo)
            case first => as_aux_lemma =>
              by_cases hA : row < rows
              · clear hgo
                go_wp2_with fail
                go_meet
                exact ⟨rfl, rfl, rfl, rfl⟩
              · have hB : col < cols := by omega
                clear hgo
                go_wp2_with fail
                go_meet
                exact ⟨rfl, rfl, rfl, rfl⟩
            case rest =>
              clear hgo
              obtain ⟨rfl, rfl, rfl, rfl⟩ := hcut
              go_wp2_with fail
              refine (scorners_any q n rows cols s.1 v (q + 1) gr s.2 s4 row col _ HP.out.1 HCOR.out (Nat.le_succ q) (by omega) hR hC hR6 hC6).mono ?_
              rintro e wp ⟨rfl, z1, z2⟩
              have HP4 := Lib.hid (And.intro z1 (HP.out.2.trans z2)); clear z1 z2 HP HCOR
              have hsn := hsn4
              cases hu : upG modHas modSet n rows cols (rows + cols) row col s4 with
              | none => exact absurd HW.out (by rw [hu]; simp)
              | some t =>
                obtain ⟨pq, s5⟩ := t
                have hw := HW.out
                rw [hu] at hw
                simp only at hw
                clear HW
                have HW := Lib.hid hw
                obtain ⟨y1, y2, y3, y4⟩ := up_bd _ _ _ _ _ _ hu
                have HU := Lib.hid hu
                clear hu hw
                go_wp2_with fail
                go_loopg [8, 9, 10] (rows + cols) (fun f2 rv qv mv wx => ∃ (r2 c2 : Int) (s : Nat × Mod) (mm : Bool), rv = .int .i64 r2 ∧ qv = .int .i64 c2 ∧ mv = .bool mm ∧ s.1 ≤ n ∧ Hid ((mm = true ∧ upG modHas modSet n rows cols f2 r2 c2 s = some (pq, s5)) ∨ (mm = false ∧ pq = (r2, c2) ∧ s5 = s)) ∧ Hid (SpAt wx q rows cols s.1 v (q + 1) gr s.2 ∧ KeptG q w wx))
                case atStart => exact ⟨row, col, s4, true, rfl, rfl, rfl, hsn, Lib.hid (.inl ⟨rfl, HU.out⟩), HP4⟩
                case round =>
                  clear HU HP4
                  rename World => wu
                  obtain ⟨r2, c2, s, mm, rfl, rfl, rfl, hsn, HUP, HPU⟩ := hrel
                  cases mm
                  · have HX : Hid (pq = (r2, c2) ∧ s5 = s) := Lib.hid (by
                      rcases HUP.out with ⟨h, _⟩ | ⟨_, h⟩
                      · cases h
                      · exact h)
                    have hr2 : r2 = pq.1 := by rw [HX.out.1]
                    have hc2 : c2 = pq.2 := by rw [HX.out.1]
                    have hs2 : s = s5 := HX.out.2.symm
                    subst hr2 hc2 hs2
                    clear HX HUP
                    cases hu : downG modHas modSet n rows cols (rows + cols) (pq.1 + 1) (pq.2 + 3) s with
                    | none => exact absurd HW.out (by rw [hu]; simp)
                    | some t =>
                      obtain ⟨pr, s7⟩ := t
                      have hw := HW.out
                      rw [hu] at hw
                      simp only at hw
                      clear HW
                      have HW := Lib.hid hw
                      obtain ⟨y1, y2, y3, y4⟩ := down_bd _ _ _ _ _ _ hu
                      have HU := Lib.hid hu
                      clear hu hw
                      go_wp2_with fail
                      go_loopg [8, 9, 11] (rows + cols) (fun f2 rv qv mv wx => ∃ (r2 c2 : Int) (s : Nat × Mod) (mm : Bool), rv = .int .i64 r2 ∧ qv = .int .i64 c2 ∧ mv = .bool mm ∧ s.1 ≤ n ∧ Hid ((mm = true ∧ downG modHas modSet n rows cols f2 r2 c2 s = some (pr, s7)) ∨ (mm = false ∧ pr = (r2, c2) ∧ s7 = s)) ∧ Hid (SpAt wx q rows cols s.1 v (q + 1) gr s.2 ∧ KeptG q w wx))
                      case atStart => exact ⟨(pq.1 + 1), (pq.2 + 3), s, true, rfl, rfl, rfl, hsn, Lib.hid (.inl ⟨rfl, HU.out⟩), HPU⟩
                      case round =>
                        clear HU HPU
                        rename World => wv
                        obtain ⟨r2, c2, s, mm, rfl, rfl, rfl, hsn, HUP, HPU⟩ := hrel
                        cases mm
                        · have HX : Hid (pr = (r2, c2) ∧ s7 = s) := Lib.hid (by
                            rcases HUP.out with ⟨h, _⟩ | ⟨_, h⟩
                            · cases h
                            · exact h)
                          have hr2 : r2 = pr.1 := by rw [HX.out.1]
                          have hc2 : c2 = pr.2 := by rw [HX.out.1]
                          have hs2 : s = s7 := HX.out.2.symm
                          subst hr2 hc2 hs2
                          clear HX HUP
                          by_cases hcont : pr.1 + 3 < rows ∨ pr.2 + 1 < cols
                          · have hup := HW.out
                            rw [if_pos hcont] at hup
                            have HUN := Lib.hid (And.intro hcont hup)
                            clear hup HW hcont
                            go_wp2_with fail
                            go_roundg f
                            case rel => exact ⟨pr.1 + 3, pr.2 + 1, s, rfl, rfl, hsn, Lib.hid (.inl HUN.out), HPU⟩
                            case measure => omega
                          · have hup := HW.out
                            rw [if_neg hcont] at hup
                            have HUN := Lib.hid (And.intro hcont (show s = (k, Me) by injection hup))
                            clear hup HW hcont
                            go_wp2_with fail
                            go_roundg f
                            case rel => exact ⟨pr.1 + 3, pr.2 + 1, s, rfl, rfl, hsn, Lib.hid (.inr HUN.out), HPU⟩
                            case measure => omega
                        · have hup : downG modHas modSet n rows cols gk r2 c2 s = some (pr, s7) := by
                            rcases HUP.out with ⟨_, h⟩ | ⟨h, _⟩
                            · exact h
                            · cases h
                          clear HUP
                          obtain ⟨f2, rfl⟩ : ∃ f', gk = f' + 1 := by
                            cases gk with
                            | zero => exact absurd hup (by rw [downG]; simp)
                            | succ f => exact ⟨f, rfl⟩
                          rw [downG] at hup
                          cases hsp : spotG modHas modSet (decide (0 ≤ r2) && decide (c2 < cols)) n rows cols r2 c2 s with
                          | none => rw [hsp] at hup; cases hup
                          | some s6 =>
                            rw [hsp] at hup
                            simp only at hup
                            have HUP := Lib.hid hup; clear hup
                            obtain ⟨⟨q1, q2, q3, q4⟩, bb, hcase, hwhy⟩ := spot_cases (k := s.1) (M := s.2) hsp
                            have hsn6 : s6.1 ≤ n := by
                              rcases hcase with ⟨_, h⟩ | ⟨_, _, _, h1, t, _, h⟩
                              · rw [h]; exact hsn
                              · rw [h]; exact h1
                            have HCASE := Lib.hid hcase; have HWHY := Lib.hid hwhy
                            clear hsp hcase hwhy
                            go_upto_region 25 with fail
                            go_cut [8, 9, 11, 120] (fun v8 v9 v10 v14 wx => v8 = .int .i64 r2 ∧ v9 = .int .i64 c2 ∧ v10 = .bool true ∧ v14 = .bool bb ∧ wx = wv)
                            case first => as_aux_lemma =>
                              rcases HWHY.out with ⟨hin, hb⟩ | ⟨hin, ra, ca, hr1, hr2, hr3, hr4, hhas⟩
                              · subst hb
                                clear HCASE
                                by_cases hA : 0 ≤ r2
                                · have hB : ¬ c2 < cols := fun hB => by simp [hA, hB] at hin
                                  clear hin
                                  go_wp2_with fail
                                  go_meet
                                  exact ⟨rfl, rfl, rfl, rfl, rfl⟩
                                · clear hin
                                  go_wp2_with fail
                                  go_meet
                                  exact ⟨rfl, rfl, rfl, rfl, rfl⟩
                              · subst hr1 hr2
                                clear hin
                                have k4 := HVR.out wv s HPU.out.1 ra hr3
                                have k5 : wv.cell? ⟨gr ra, ca, none⟩ = some (.int .i64 (s.2 (ra * cols + ca))) := by rw [(HPU.out.1.inner ra hr3).cell]; exact rowI_at _ _ _ _ hr4
                                have k3 : wv.cell? ⟨q, 3, none⟩ = some (.slice (some ⟨vb, vo, none⟩) rows vc) := by rw [HPU.out.1.head.cell, ← HV.out]; rfl
                                have hdec : decide (s.2 (ra * cols + ca) < 0) = bb := by
                                  unfold modHas at hhas
                                  cases bb
                                  · simp at hhas; simp; omega
                                  · simp at hhas; simp; omega
                                generalize s.2 (ra * cols + ca) = x0 at *
                                clear hhas
                                go_wp2_with fail
                                go_meet
                                exact ⟨rfl, rfl, rfl, by first | rfl | rw [hdec], rfl⟩
                            case rest =>
                              clear HWHY
                              obtain ⟨rfl, rfl, rfl, rfl, rfl⟩ := hcut
                              go_upto_if 120 with fail
                              go_cut [8, 9, 11] (fun v8 v9 v10 wx => v8 = .int .i64 r2 ∧ v9 = .int .i64 c2 ∧ v10 = .bool true ∧ Hid (SpAt wx q rows cols s6.1 v (q + 1) gr s6.2 ∧ KeptG q w wx))
                              case first => as_aux_lemma =>
                                rcases HCASE.out with ⟨hf, hs⟩ | ⟨ht, hz1, hz2, hw, t, hp, hs⟩
                                · have HX : Hid (s6 = s) := Lib.hid (by rw [hs])
                                  clear hs
                                  subst hf
                                  go_wp2_with fail
                                  go_meet
                                  exact ⟨rfl, rfl, rfl, by rw [HX.out]; exact HPU⟩
                                · have HX : Hid (s6 = (s.1 + 1, t)) := Lib.hid hs
                                  have HPT := Lib.hid hp
                                  clear hs hp
                                  subst ht
                                  go_wp2_with fail
                                  refine (sutah_any q rows cols s.1 v (q + 1) gr s.2 t r2 c2 _ HPU.out.1 HPT.out (Nat.le_succ q) (by omega) hR hC ⟨hz1, by omega⟩ ⟨hz2, by omega⟩).mono ?_
                                  rintro e w9 ⟨rfl, z1, z2⟩
                                  have HQ2 := Lib.hid (And.intro z1 (HPU.out.2.trans (KeptG.of z2))); clear z1 z2
                                  go_wp2_with fail
                                  go_meet
                                  exact ⟨rfl, rfl, rfl, by rw [HX.out]; exact HQ2⟩
                              case rest =>
                                clear HPU HCASE
                                rename World => wc6
                                obtain ⟨rfl, rfl, rfl, HPU⟩ := hcut
                                by_cases hcont : r2 + 2 < rows ∧ 0 ≤ c2 - 2
                                · have hup := HUP.out
                                  rw [if_pos hcont] at hup
                                  have HUN := Lib.hid hup
                                  clear hup HUP
                                  obtain ⟨hz1, hz2⟩ := hcont
                                  have hz3 : 2 ≤ c2 := by omega
                                  go_wp2_with fail
                                  go_roundg f2
                                  case rel => exact ⟨r2 + 2, c2 - 2, s6, true, rfl, rfl, rfl, hsn6, Lib.hid (.inl ⟨rfl, HUN.out⟩), HPU⟩
                                  case measure => omega
                                · have hup := HUP.out
                                  rw [if_neg hcont] at hup
                                  have HX : Hid (pr = (r2 + 2, c2 - 2) ∧ s7 = s6) := Lib.hid (by injection hup with hup; injection hup with e1 e2; exact ⟨e1.symm, e2.symm⟩)
                                  clear hup HUP
                                  by_cases hz : r2 + 2 < rows
                                  · have hz2 : ¬ (0 ≤ c2 - 2) := fun h => hcont ⟨hz, h⟩
                                    have hz3 : ¬ (2 ≤ c2) := by omega
                                    clear hcont
                                    go_wp2_with fail
                                    go_roundg f2
                                    case rel => exact ⟨r2 + 2, c2 - 2, s6, false, rfl, rfl, rfl, hsn6, Lib.hid (.inr ⟨rfl, HX.out⟩), HPU⟩
                                    case measure => omega
                                  · clear hcont
                                    go_wp2_with fail
                                    go_roundg f2
                                    case rel => exact ⟨r2 + 2, c2 - 2, s6, false, rfl, rfl, rfl, hsn6, Lib.hid (.inr ⟨rfl, HX.out⟩), HPU⟩
                                    case measure => omega
                  · have hup : upG modHas modSet n rows cols gk r2 c2 s = some (pq, s5) := by
                      rcases HUP.out with ⟨_, h⟩ | ⟨h, _⟩
                      · exact h
                      · cases h
                    clear HUP
                    obtain ⟨f2, rfl⟩ : ∃ f', gk = f' + 1 := by
                      cases gk with
                      | zero => exact absurd hup (by rw [upG]; simp)
                      | succ f => exact ⟨f, rfl⟩
                    rw [upG] at hup
                    cases hsp : spotG modHas modSet (decide (r2 < rows) && decide (0 ≤ c2)) n rows cols r2 c2 s with
                    | none => rw [hsp] at hup; cases hup
                    | some s6 =>
                      rw [hsp] at hup
                      simp only at hup
                      have HUP := Lib.hid hup; clear hup
                      obtain ⟨⟨q1, q2, q3, q4⟩, bb, hcase, hwhy⟩ := spot_cases (k := s.1) (M := s.2) hsp
                      have hsn6 : s6.1 ≤ n := by
                        rcases hcase with ⟨_, h⟩ | ⟨_, _, _, h1, t, _, h⟩
                        · rw [h]; exact hsn
                        · rw [h]; exact h1
                      have HCASE := Lib.hid hcase; have HWHY := Lib.hid hwhy
                      clear hsp hcase hwhy
                      go_upto_region 18 with fail
                      go_cut [8, 9, 10, 80] (fun v8 v9 v10 v14 wx => v8 = .int .i64 r2 ∧ v9 = .int .i64 c2 ∧ v10 = .bool true ∧ v14 = .bool bb ∧ wx = wu)
                      case first => as_aux_lemma =>
                        rcases HWHY.out with ⟨hin, hb⟩ | ⟨hin, ra, ca, hr1, hr2, hr3, hr4, hhas⟩
                        · subst hb
                          clear HCASE
                          by_cases hA : r2 < rows
                          · have hB : ¬ 0 ≤ c2 := fun hB => by simp [hA, hB] at hin
                            clear hin
                            go_wp2_with fail
                            go_meet
                            exact ⟨rfl, rfl, rfl, rfl, rfl⟩
                          · clear hin
                            go_wp2_with fail
                            go_meet
                            exact ⟨rfl, rfl, rfl, rfl, rfl⟩
                        · subst hr1 hr2
                          clear hin
                          have k4 := HVR.out wu s HPU.out.1 ra hr3
                          have k5 : wu.cell? ⟨gr ra, ca, none⟩ = some (.int .i64 (s.2 (ra * cols + ca))) := by rw [(HPU.out.1.inner ra hr3).cell]; exact rowI_at _ _ _ _ hr4
                          have k3 : wu.cell? ⟨q, 3, none⟩ = some (.slice (some ⟨vb, vo, none⟩) rows vc) := by rw [HPU.out.1.head.cell, ← HV.out]; rfl
                          have hdec : decide (s.2 (ra * cols + ca) < 0) = bb := by
                            unfold modHas at hhas
                            cases bb
                            · simp at hhas; simp; omega
                            · simp at hhas; simp; omega
                          generalize s.2 (ra * cols + ca) = x0 at *
                          clear hhas
                          go_wp2_with fail
                          go_meet
                          exact ⟨rfl, rfl, rfl, by first | rfl | rw [hdec], rfl⟩
                      case rest =>
                        clear HWHY
                        obtain ⟨rfl, rfl, rfl, rfl, rfl⟩ := hcut
                        go_upto_if 80 with fail
                        go_cut [8, 9, 10] (fun v8 v9 v10 wx => v8 = .int .i64 r2 ∧ v9 = .int .i64 c2 ∧ v10 = .bool true ∧ Hid (SpAt wx q rows cols s6.1 v (q + 1) gr s6.2 ∧ KeptG q w wx))
                        case first => as_aux_lemma =>
                          rcases HCASE.out with ⟨hf, hs⟩ | ⟨ht, hz1, hz2, hw, t, hp, hs⟩
                          · have HX : Hid (s6 = s) := Lib.hid (by rw [hs])
                            clear hs
                            subst hf
                            go_wp2_with fail
                            go_meet
                            exact ⟨rfl, rfl, rfl, by rw [HX.out]; exact HPU⟩
                          · have HX : Hid (s6 = (s.1 + 1, t)) := Lib.hid hs
                            have HPT := Lib.hid hp
                            clear hs hp
                            subst ht
                            go_wp2_with fail
                            refine (sutah_any q rows cols s.1 v (q + 1) gr s.2 t r2 c2 _ HPU.out.1 HPT.out (Nat.le_succ q) (by omega) hR hC ⟨hz1, by omega⟩ ⟨hz2, by omega⟩).mono ?_
                            rintro e w9 ⟨rfl, z1, z2⟩
                            have HQ2 := Lib.hid (And.intro z1 (HPU.out.2.trans (KeptG.of z2))); clear z1 z2
                            go_wp2_with fail
                            go_meet
                            exact ⟨rfl, rfl, rfl, by rw [HX.out]; exact HQ2⟩
                        case rest =>
                          clear HPU HCASE
                          rename World => wc6
                          obtain ⟨rfl, rfl, rfl, HPU⟩ := hcut
                          by_cases hcont : 0 ≤ r2 - 2 ∧ c2 + 2 < cols
                          · have hup := HUP.out
                            rw [if_pos hcont] at hup
                            have HUN := Lib.hid hup
                            clear hup HUP
                            obtain ⟨hz1, hz2⟩ := hcont
                            have hz3 : c2 + 2 < cols := by omega
                            go_wp2_with fail
                            go_roundg f2
                            case rel => exact ⟨r2 - 2, c2 + 2, s6, true, rfl, rfl, rfl, hsn6, Lib.hid (.inl ⟨rfl, HUN.out⟩), HPU⟩
                            case measure => omega
                          · have hup := HUP.out
                            rw [if_neg hcont] at hup
                            have HX : Hid (pq = (r2 - 2, c2 + 2) ∧ s5 = s6) := Lib.hid (by injection hup with hup; injection hup with e1 e2; exact ⟨e1.symm, e2.symm⟩)
                            clear hup HUP
                            by_cases hz : 0 ≤ r2 - 2
                            · have hz2 : ¬ (c2 + 2 < cols) := fun h => hcont ⟨hz, h⟩
                              have hz3 : ¬ (c2 + 2 < cols) := by omega
                              clear hcont
                              go_wp2_with fail
                              go_roundg f2
                              case rel => exact ⟨r2 - 2, c2 + 2, s6, false, rfl, rfl, rfl, hsn6, Lib.hid (.inr ⟨rfl, HX.out⟩), HPU⟩
                              case measure => omega
                            · clear hcont
                              go_wp2_with fail
                              go_roundg f2
                              case rel => exact ⟨r2 - 2, c2 + 2, s6, false, rfl, rfl, rfl, hsn6, Lib.hid (.inr ⟨rfl, HX.out⟩), HPU⟩
                              case measure => omega
        · clear HSW
          subst hse
          have c3 : wo.cell? ⟨q, 3, none⟩ = some (.slice (some ⟨vb, vo, none⟩) rows vc) := by rw [HP.out.1.head.cell, ← HV.out]; rfl
          have hA : ¬ row < rows := fun h => hno (.inl h)
          have hB : ¬ col < cols := fun h => hno (.inr h)
          clear hno
          go_wp2_with fail
          go_ret
          exact ⟨v, by rw [HV.out]; rfl, ⟨q, gr, HP.out.1⟩, by have h9 := HP.out.2.2 q (Nat.le_refl _); rw [HQ.out] at h9; exact h9⟩
end Go.Proofs.Ytknipefcihkofaa
