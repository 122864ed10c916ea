/-
  WALKS: dmAlike, DMSizes, MapRows, MapCols; the law of placement.
-/
import Derived.Test.YtknipefcihkofaaDl1
namespace Go.Proofs.Ytknipefcihkofaa
open Go.RowKit

set_option maxRecDepth 100000 in
theorem alike_yes (a b : Value) (rows : List (List Bool)) (W : Nat) (w : World) (ha : RowsT w a rows) (hb : RowsT w b rows) (h0 : 0 < rows.length) (hr : ∀ r ∈ rows, r.length = W) (hW : 0 < W) :
    Calls Try.prog 16 #[a, b] w fun e w' => e = .returned (.bool true) ∧ Below w.heap.size w w' := by
  obtain ⟨ba, oa, ca, rfl, ha1, ha2, HA⟩ := ha.at_ h0
  obtain ⟨bb, ob, cb, rfl, hb1, hb2, HB⟩ := hb.at_ h0
  have hrl : ∀ y, y < rows.length → (rows.getD y []).length = W := fun y hy => by rw [List.getD, List.getElem?_eq_getElem hy]; exact hr _ (List.getElem_mem hy)
  have HRL := Lib.hid hrl
  clear ha hb hr hrl
  go_enter Try.func16, Try.ntmps16
  go_wp2
  go_loopw [14] (fun iv wr => ∃ i : Nat, i ≤ rows.length ∧ iv = .int .i64 i ∧ Hid (Below w.heap.size w wr)) (fun iv _ => rows.length - (intOf iv).toNat)
  case atStart => exact ⟨0, Nat.zero_le _, rfl, Lib.hid (brf w)⟩
  case round =>
    obtain ⟨i, hi, rfl, HW⟩ := hrel
    by_cases hlt : i < rows.length
    · obtain ⟨u1, hc1, hu1⟩ := HA.out i hlt
      obtain ⟨u2, hc2, hu2⟩ := HB.out i hlt
      have hl := HRL.out i hlt
      obtain ⟨by1, oy1, cy1, rfl, p1, p2, HC1⟩ := row_at hu1 (by omega)
      obtain ⟨by2, oy2, cy2, rfl, p3, p4, HC2⟩ := row_at hu2 (by omega)
      generalize rows.getD i [] = row at *
      rw [hl] at hc1 hc2 p1 p3
      have HL := Lib.hid hl
      have c1 := cell_up hc1 HW.out
      have c2 := cell_up hc2 HW.out
      clear hu1 hu2 hl
      go_wp2
      refine Can.wp_region_can (fun w' => w'.cell? ⟨ba, oa + i, none⟩ = some (.slice (some ⟨by1, oy1, none⟩) W cy1) ∧ w'.cell? ⟨bb, ob + i, none⟩ = some (.slice (some ⟨by2, oy2, none⟩) W cy2)) 999 [0, 1, 2, 3, 4, 5, 6, 7, 8, 9, 10] (by kernel_rfl) (by kernel_rfl) (fun _ _ d _ _ h => by cases d <;> exact h) ⟨c1, c2⟩ (fun hHeld => ?_)
      repeat (refine Can.can_pure (v := ?_) rfl rfl (Or.inl ⟨by rfl, ?_⟩) ?_; rotate_left; (focus ((intro w hSw); (try dsimp only at hSw); go_simp; (try with_reducible rfl))); (try simp only [Act.put, List.getElem_toArray, List.getElem_cons_succ, List.getElem_cons_zero, List.setIfInBounds_toArray, List.set_cons_zero, List.set_cons_succ]))
      refine Can.can_done ?_
      have HW2 := Lib.hid (bdr HW.out)
      clear hHeld
      have d1 := cell_up c1 (bdr (brf wr))
      clear c1 c2 HW
      go_wp2
      go_loopw [33] (fun jv wj => ∃ j : Nat, j ≤ W ∧ jv = .int .i64 j ∧ Hid (Below w.heap.size w wj)) (fun jv _ => W - (intOf jv).toNat)
      case atStart => exact ⟨0, Nat.zero_le _, rfl, HW2⟩
      case round =>
        rename World => wj
        clear HW2
        obtain ⟨j, hj, rfl, HW2⟩ := hrel
        by_cases hjl : j < W
        · have e1 := cell_up hc1 HW2.out
          have e2 := cell_up hc2 HW2.out
          have e3 := cell_up (HC1.out j (by rw [HL.out]; exact hjl)) HW2.out
          have e4 := cell_up (HC2.out j (by rw [HL.out]; exact hjl)) HW2.out
          generalize row.getD j false = x at *
          go_wp2
          refine Can.wp_region_can (fun w' => w'.cell? ⟨ba, oa + i, none⟩ = some (.slice (some ⟨by1, oy1, none⟩) W cy1) ∧ w'.cell? ⟨bb, ob + i, none⟩ = some (.slice (some ⟨by2, oy2, none⟩) W cy2) ∧ w'.cell? ⟨by1, oy1 + j, none⟩ = some (.bool x) ∧ w'.cell? ⟨by2, oy2 + j, none⟩ = some (.bool x)) 999 [0, 1, 2, 3, 4, 5, 6, 7, 8, 9, 10, 11, 12, 13, 14] (by kernel_rfl) (by kernel_rfl) (fun _ _ d _ _ h => by cases d <;> exact h) ⟨e1, e2, e3, e4⟩ (fun hHeld => ?_)
          repeat (refine Can.can_pure (v := ?_) rfl rfl (Or.inl ⟨by rfl, ?_⟩) ?_; rotate_left; (focus ((intro w hSw); (try dsimp only at hSw); go_simp; (try with_reducible rfl))); (try simp only [Act.put, List.getElem_toArray, List.getElem_cons_succ, List.getElem_cons_zero, List.setIfInBounds_toArray, List.set_cons_zero, List.set_cons_succ]))
          refine Can.can_done ?_
          have HW3 := Lib.hid (bdr HW2.out)
          clear hHeld e1 e2 e3 e4 HW2
          go_wp2
          go_roundw
          case rel => exact ⟨j + 1, by omega, by go_num, HW3⟩
          case measure => simp [intOf] <;> omega
        · have hje : W = j := by omega
          subst hje
          go_wp2
          go_roundw
          case rel => exact ⟨i + 1, by omega, by go_num, HW2⟩
          case measure => simp [intOf] <;> omega
    · go_wp2
      go_ret
      exact ⟨rfl, HW.out⟩
def nv (l : List Nat) : List Value := l.map fun n : Nat => Value.int .i64 (n : Int)
def szF : List Nat := szL.flatten
theorem szF_at : ∀ k, k < 30 → ∀ j, j < 7 → szF[k * 7 + j]? = some (szA k j) := by decide
theorem nv_at (l : List Nat) (i x : Nat) (h : l[i]? = some x) : (nv l).toArray[i]? = some (.int .i64 (x : Nat)) := by simp [nv, h]
theorem list_build {P : Program} {w : World} {ops : Array Oper} {rest : List Oper} {o : Oper} {a : Act} {Q : Exit → Act → World → Prop} (hgd : o.guard = none) (t : TypeId) (n : Nat) (ps : Array (Nat × Operand)) (ho : o.op = .buildSlice t n ps) (v : Value) (w' : World)
    (hrun : (Instr.buildSlice t n (ps.map fun x => (x.1, a.eval x.2))).run P w = .ok v w') (h : wpList P ops Q rest (a.put o.dst v) w') : wpList P ops Q (o :: rest) a w :=
  wpList_plain hgd fun _ hK => by
    unfold Oper.wp execOp
    simp only [ho, Sem.run_bind, Sem.run_pure, hrun, Result.andThen_ok]
    exact hK _ _ h
set_option maxRecDepth 100000 in
set_option maxHeartbeats 4000000 in
theorem sizes_any (w : World) : Calls Try.prog 13 #[] w fun e w' => ∃ g, e = .returned (.slice (some ⟨g, 0, none⟩) 30 30) ∧ Blk w' g 36 (nv szF).toArray ∧ Below w.heap.size w w' := by
  go_enter Try.func13, Try.ntmps13
  go_wp2_with (with_reducible refine stop_at (o := ⟨some 31, _, _, _, _, _⟩) ?_)
  refine Lib.hid ?_
  refine list_build rfl _ _ _ rfl (.slice (some ⟨w.heap.size, 0, none⟩) 30 30) (w.alloc (.cells (nv szF).toArray 36)) (by kernel_rfl) ?_
  go_wp2
  go_ret
  exact ⟨_, rfl, Blk.fresh w _ _, bal (brf w) _⟩
set_option maxRecDepth 100000 in
theorem mapRows_any (x a y b c d' e' : Nat) (w : World) (hx : x ≤ 2000) (hy : y ≤ 2000) : Calls Try.prog 14 #[.agg #[.int .i64 x, .int .i64 a, .int .i64 y, .int .i64 b, .int .i64 c, .int .i64 d', .int .i64 e']] w fun e w' => e = .returned (.int .i64 ((x / (y + 2) * y : Nat) : Int)) ∧ Below w.heap.size w w' := by
  obtain ⟨y2, e1⟩ : ∃ z, z = y + 2 := ⟨_, rfl⟩
  obtain ⟨d, e2⟩ : ∃ z, z = x / y2 := ⟨_, rfl⟩
  obtain ⟨m, e3⟩ : ∃ z, z = d * y := ⟨_, rfl⟩
  have hd : d ≤ 2000 := by rw [e2]; exact Nat.le_trans (Nat.div_le_self _ _) hx
  have hm : m ≤ 2000 * 2000 := by rw [e3]; exact Nat.mul_le_mul hd hy
  have f1 : (y : Int) + 2 = (y2 : Int) := by omega
  have f2 : IntKind.i64.wrap (y2 : Int) = (y2 : Int) := by rw [IntKind.wrap_i64]; omega
  have f3 : Int.tdiv (x : Int) (y2 : Int) = (d : Int) := by rw [Int.tdiv_eq_ediv_of_nonneg (by omega), e2]; simp
  have f4 : IntKind.i64.wrap (d : Int) = (d : Int) := by rw [IntKind.wrap_i64]; omega
  have f5 : (d : Int) * (y : Int) = (m : Int) := by rw [e3]; simp
  have f6 : IntKind.i64.wrap (m : Int) = (m : Int) := by rw [IntKind.wrap_i64]; omega
  have f8 : ¬ y2 = 0 := by omega
  rw [← e1, ← e2, ← e3]
  clear e1 e2 e3
  go_enter Try.func14, Try.ntmps14
  go_wp2_with fail
  refine Can.wp_region_can (fun w' => w'.cell? ⟨w.heap.size, 0, none⟩ = some (.int .i64 x) ∧ w'.cell? ⟨w.heap.size, 2, none⟩ = some (.int .i64 y)) 999 [0, 1, 2, 3, 4, 5, 6, 7, 8, 9] (by kernel_rfl) (by kernel_rfl) (fun _ _ d _ _ h => by cases d <;> exact h) ⟨by simp, by simp⟩ (fun hHeld => ?_)
  repeat (refine Can.can_pure (v := ?_) rfl rfl (Or.inl ⟨by rfl, ?_⟩) ?_; rotate_left; (focus ((intro w hSw); (try dsimp only at hSw); go_simp; (try with_reducible rfl))); (try simp only [Act.put, List.getElem_toArray, List.getElem_cons_succ, List.getElem_cons_zero, List.setIfInBounds_toArray, List.set_cons_zero, List.set_cons_succ]))
  refine Can.can_done ?_
  clear hHeld
  go_wp2
  go_ret
  exact ⟨rfl, bdr (bal (brf w) _)⟩
set_option maxRecDepth 100000 in
theorem mapCols_any (a x b y c d' e' : Nat) (w : World) (hx : x ≤ 2000) (hy : y ≤ 2000) : Calls Try.prog 15 #[.agg #[.int .i64 a, .int .i64 x, .int .i64 b, .int .i64 y, .int .i64 c, .int .i64 d', .int .i64 e']] w fun e w' => e = .returned (.int .i64 ((x / (y + 2) * y : Nat) : Int)) ∧ Below w.heap.size w w' := by
  obtain ⟨y2, e1⟩ : ∃ z, z = y + 2 := ⟨_, rfl⟩
  obtain ⟨d, e2⟩ : ∃ z, z = x / y2 := ⟨_, rfl⟩
  obtain ⟨m, e3⟩ : ∃ z, z = d * y := ⟨_, rfl⟩
  have hd : d ≤ 2000 := by rw [e2]; exact Nat.le_trans (Nat.div_le_self _ _) hx
  have hm : m ≤ 2000 * 2000 := by rw [e3]; exact Nat.mul_le_mul hd hy
  have f1 : (y : Int) + 2 = (y2 : Int) := by omega
  have f2 : IntKind.i64.wrap (y2 : Int) = (y2 : Int) := by rw [IntKind.wrap_i64]; omega
  have f3 : Int.tdiv (x : Int) (y2 : Int) = (d : Int) := by rw [Int.tdiv_eq_ediv_of_nonneg (by omega), e2]; simp
  have f4 : IntKind.i64.wrap (d : Int) = (d : Int) := by rw [IntKind.wrap_i64]; omega
  have f5 : (d : Int) * (y : Int) = (m : Int) := by rw [e3]; simp
  have f6 : IntKind.i64.wrap (m : Int) = (m : Int) := by rw [IntKind.wrap_i64]; omega
  have f8 : ¬ y2 = 0 := by omega
  rw [← e1, ← e2, ← e3]
  clear e1 e2 e3
  go_enter Try.func15, Try.ntmps15
  go_wp2_with fail
  refine Can.wp_region_can (fun w' => w'.cell? ⟨w.heap.size, 1, none⟩ = some (.int .i64 x) ∧ w'.cell? ⟨w.heap.size, 3, none⟩ = some (.int .i64 y)) 999 [0, 1, 2, 3, 4, 5, 6, 7, 8, 9] (by kernel_rfl) (by kernel_rfl) (fun _ _ d _ _ h => by cases d <;> exact h) ⟨by simp, by simp⟩ (fun hHeld => ?_)
  repeat (refine Can.can_pure (v := ?_) rfl rfl (Or.inl ⟨by rfl, ?_⟩) ?_; rotate_left; (focus ((intro w hSw); (try dsimp only at hSw); go_simp; (try with_reducible rfl))); (try simp only [Act.put, List.getElem_toArray, List.getElem_cons_succ, List.getElem_cons_zero, List.setIfInBounds_toArray, List.set_cons_zero, List.set_cons_succ]))
  refine Can.can_done ?_
  clear hHeld
  go_wp2
  go_ret
  exact ⟨rfl, bdr (bal (brf w) _)⟩
end Go.Proofs.Ytknipefcihkofaa
