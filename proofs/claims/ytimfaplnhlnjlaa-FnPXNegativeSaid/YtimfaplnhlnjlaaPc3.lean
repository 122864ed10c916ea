/-
  WALKS: (*gozxing.PlanarYUVLuminanceSource).GetMatrix.
-/
import Derived.Test.YtimfaplnhlnjlaaPc2
import Derived.Test.YtimfaplnhlnjlaaArgs
namespace Go.Proofs.Ytimfaplnhlnjlaa
open Go.RowKit

theorem size_b8 : (Try.prog.info? 5).map (·.size) = some 1 := by kernel_rfl
section
variable {P : Program} {ops : Array Oper} {o : Oper} {a : Act} {w : World} {K : Act → World → Prop} {Q : Exit → Act → World → Prop} {E : Prop}
/-- A copy inside a region that draws. -/
theorem step_copy (hgd : o.guard = none) (d s : Operand) (dT sT : TypeId)
    (ho : o.op = .call { callee := .builtin .copy, args := #[d, s], argTypes := #[dT, sT] }) (elem : TypeId) (hu : P.underlying dT = some (.slice elem)) (hsz : (P.info? elem).map (·.size) = some 1)
    (g off dLen dCap : Nat) (ad : Addr) (sLen sCap : Nat) (hd : a.eval d = .slice (some ⟨g, off, none⟩) dLen dCap) (hs : a.eval s = .slice (some ad) sLen sCap)
    (cur : List Value) (t : TypeId) (hg : Blk w g t cur.toArray) (cs : List Value) (hn : cs.length = Nat.min sLen dLen)
    (hsrc : ∀ j v, cs[j]? = some v → w.cell? (ad.add j) = some v) (hfit : off + cs.length ≤ cur.length) (h1 : ∀ v ∈ cs, v.oneCell' = true)
    (h : ∀ w', Blk w' g t (splice cur off cs).toArray → (∀ B w0, Below B w0 w → B ≤ g → Below B w0 w') → K (a.put o.dst (goInt cs.length)) w') :
    if Region.wanted o (yielded ops a.tmps) = true then Oper.wp P o a w K Q else E := by
  have hw : Region.wanted o (yielded ops a.tmps) = true := by simp [Region.wanted, hgd]
  rw [if_pos hw]
  have hrun := run_copy_row (P := P) w dT sT o.type elem g off dLen dCap ad sLen sCap cur.toArray t cs hu hsz hg hn hsrc (by simpa using hfit) h1
  unfold Oper.wp
  simp [execOp, ho, resolve, invoke, builtin, hd, hs, hrun, Result.andThen]
  exact h _ (by have := setRow_heap w g cur.toArray (splice cur off cs).toArray t _ hg; unfold Blk; simpa [splice] using this) (fun B w0 hb hB => below_setRow hb hB _)
end
theorem splice_whole {α : Type} (cur cs : List α) (h : cs.length = cur.length) : splice cur 0 cs = cs := by
  unfold splice
  rw [List.take_zero, List.nil_append, h, Nat.zero_add, List.drop_length, List.append_nil]
theorem splice_b8 (cur cs : List Nat) (o : Nat) : splice (b8 cur) o (b8 cs) = b8 (splice cur o cs) := by
  unfold splice b8
  simp
set_option maxRecDepth 100000 in
set_option maxHeartbeats 2000000 in
theorem matrix_any (p : Nat) (A : Option Addr) (c W H x y a b : Nat) (L : List Nat) (w : World) (hp : Blk w p 98 (srcC (.slice A L.length c) W H x y a b)) (hv : RdT w 5 (.slice A L.length c) (b8 L))
    (hL : L.length = W * H) (h1 : x + a ≤ W) (h2 : y + b ≤ H) (ha : 0 < a) (hb : 0 < b) (hs : L.length ≤ 1000000) :
    Calls Try.prog 75 #[.pointer (some ⟨p, 0, none⟩)] w fun e w' =>
      ∃ v', e = .returned v' ∧ RdT w' 5 v' (b8 (partOf L W x y a b)) ∧ Below w.heap.size w w' := by
  have hHn : H ≤ L.length := by rw [hL]; exact Nat.le_mul_of_pos_left _ (by omega)
  have hWn : W ≤ L.length := by rw [hL]; exact Nat.le_mul_of_pos_right _ (by omega)
  have c0 : w.cell? ⟨p, 0, none⟩ = some (.int .i64 a) := by rw [hp.cell]; rfl
  have c1 : w.cell? ⟨p, 1, none⟩ = some (.int .i64 b) := by rw [hp.cell]; rfl
  have c2 : w.cell? ⟨p, 2, none⟩ = some (.slice A L.length c) := by rw [hp.cell]; rfl
  have c3 : w.cell? ⟨p, 3, none⟩ = some (.int .i64 W) := by rw [hp.cell]; rfl
  have c4 : w.cell? ⟨p, 4, none⟩ = some (.int .i64 H) := by rw [hp.cell]; rfl
  have c5 : w.cell? ⟨p, 5, none⟩ = some (.int .i64 x) := by rw [hp.cell]; rfl
  have c6 : w.cell? ⟨p, 6, none⟩ = some (.int .i64 y) := by rw [hp.cell]; rfl
  have HP := Lib.hid hp; clear hp
  have HL := Lib.hid hL
  have HV := Lib.hid hv
  by_cases hfull : a = W ∧ b = H
  · obtain ⟨rfl, rfl⟩ := hfull
    obtain rfl : x = 0 := by omega
    obtain rfl : y = 0 := by omega
    clear hL hv
    go_enter Try.func75, Try.ntmps75
    go_wp2_with fail
    refine (srcW_any p _ w c0).mono ?_
    rintro e w ⟨rfl, rfl⟩
    go_wp2_with fail
    refine (srcH_any p _ w c1).mono ?_
    rintro e w ⟨rfl, rfl⟩
    go_wp2
    go_ret
    exact ⟨_, rfl, by rw [part_all _ _ _ HL.out]; exact HV.out, brf w⟩
  · have hfi : ¬ ((a : Int) = (W : Int) ∧ (b : Int) = (H : Int)) := by omega
    obtain ⟨N, hN⟩ : ∃ N, N = a * b := ⟨_, rfl⟩
    have hNL : N ≤ L.length := by
      rw [hN, hL]; exact Nat.mul_le_mul (by omega) (by omega)
    have hN0 : 0 < N := by rw [hN]; exact Nat.mul_pos ha hb
    obtain ⟨Y, hY⟩ : ∃ Y, Y = y * W := ⟨_, rfl⟩
    have hYL : Y ≤ L.length := by rw [hY, hL, Nat.mul_comm W H]; exact Nat.mul_le_mul_right _ (by omega)
    have sN : IntKind.i64.wrap ((a : Int) * (b : Int)) = (N : Int) := by
      have : (a : Int) * (b : Int) = (N : Int) := by rw [hN]; simp
      rw [this, IntKind.wrap_i64]; omega
    have sY : IntKind.i64.wrap ((y : Int) * (W : Int)) = (Y : Int) := by
      have : (y : Int) * (W : Int) = (Y : Int) := by rw [hY]; simp
      rw [this, IntKind.wrap_i64]; omega
    obtain ⟨I, hI⟩ : ∃ I, I = Y + x := ⟨_, rfl⟩
    have sI : IntKind.i64.wrap ((Y : Int) + (x : Int)) = (I : Int) := by rw [IntKind.wrap_i64]; omega
    have hIL : I + (a - 0) ≤ L.length := by
      have : Y + W ≤ L.length := by rw [hY, hL, Nat.mul_comm W H]; have := Nat.mul_le_mul_right W (show y + 1 ≤ H by omega); rw [Nat.add_mul, Nat.one_mul] at this; exact this
      omega
    have HN := Lib.hid hN; clear hN
    have HY := Lib.hid hY; clear hY hL hv
    have hmk := run_mk (P := Try.prog) 30 5 (.int .u8 0) 1 Try.underlying30 info_b8 rfl N (by omega) (by omega) w
    have hwn : ((N : Int) < 0) = False := by simp
    go_enter Try.func75, Try.ntmps75
    go_wp2_with fail
    refine (srcW_any p _ w c0).mono ?_
    rintro e w ⟨rfl, rfl⟩
    go_wp2_with fail
    refine (srcH_any p _ w c1).mono ?_
    rintro e w ⟨rfl, rfl⟩
    by_cases haW : a = W
    · have hx0 : x ≤ 0 := by omega
      have hIN : I + N ≤ L.length := by
        rw [hI, HY.out, HN.out, HL.out, haW, Nat.mul_comm W H, Nat.mul_comm W b]
        have := Nat.mul_le_mul_right W h2
        rw [Nat.add_mul] at this; omega
      have HI := Lib.hid hI; clear hI
      have sIN : IntKind.i64.wrap ((I : Int) + (N : Int)) = ((I + N : Nat) : Int) := by rw [IntKind.wrap_i64]; omega
      have hpart : partOf L W x y a b = (L.drop I).take N := by
        have e0 : x = 0 := by omega
        have := part_rows L W y b (by have := Nat.mul_le_mul_right W h2; rw [HL.out, Nat.mul_comm W H]; exact this)
        rw [HI.out, HY.out, HN.out, e0, haW, Nat.add_zero]; exact this
      have HPt := Lib.hid hpart; clear hpart
      have hbH : ¬ ((b : Int) = (H : Int)) := by omega
      clear hfull hfi
      subst haW
      go_wp2_with fail
      refine Can.wp_region_can (fun w' => w'.cell? ⟨p, 6, none⟩ = some (.int .i64 y) ∧ w'.cell? ⟨p, 3, none⟩ = some (.int .i64 a) ∧ w'.cell? ⟨p, 5, none⟩ = some (.int .i64 x)) 999 [0, 1, 2, 3, 4, 5, 6, 7, 8, 9, 10, 11, 12, 13, 14] (by kernel_rfl) (by kernel_rfl) (fun _ _ d _ _ h => by cases d <;> exact h) ⟨(cell_up c6 (bdr (bal (brf w) _))), (cell_up c3 (bdr (bal (brf w) _))), (cell_up c5 (bdr (bal (brf w) _)))⟩ (fun hHeld => ?_)
      repeat (refine Can.can_pure (v := ?_) rfl rfl (Or.inl ⟨by rfl, ?_⟩) ?_; rotate_left; (focus ((intro w hSw); (try dsimp only at hSw); go_simp; (try with_reducible rfl))); (try simp only [Act.put, List.getElem_toArray, List.getElem_cons_succ, List.getElem_cons_zero, List.setIfInBounds_toArray, List.set_cons_zero, List.set_cons_succ]))
      refine Can.can_done ?_
      clear hHeld hmk
      obtain ⟨w1, hw1⟩ : ∃ w1, w1 = World.drew (w.alloc (Obj.cells (rep N (Value.int IntKind.u8 0)) 5)) := ⟨_, rfl⟩
      have hb1 : Below w.heap.size w w1 := by rw [hw1]; exact bdr (bal (brf w) _)
      have hx1 : Blk w1 w.heap.size 5 (b8 (List.replicate N 0)).toArray := by
        rw [hw1]
        have := Blk.fresh w 5 (rep N (Value.int IntKind.u8 0))
        have e : rep N (Value.int IntKind.u8 0) = (b8 (List.replicate N 0)).toArray := by simp [rep, b8]
        rw [← e]; exact this.drew
      rw [← hw1]
      clear hw1
      have d2 := cell_up c2 hb1
      have d3 := cell_up c3 hb1
      have hv1 := HV.out.up hb1
      have HX1 := Lib.hid hx1; clear hx1
      have HB1 := Lib.hid hb1; clear hb1
      clear c0 c1 c2 c3 c4 c5 c6 HV
      obtain ⟨A', cap', hA, k1, k2, k3⟩ := hv1
      injection hA with e1 _ e2
      subst e1 e2
      rw [b8_len] at k1 k3
      obtain ⟨bb, oo, cs, fr, rfl, hheap, hcs⟩ := k3 (by omega)
      have hsrc : ∀ j v, (b8 ((L.drop I).take N))[j]? = some v → w1.cell? ((⟨bb, oo + I, none⟩ : Addr).add j) = some v := fun j v hj => by
        have hjN : j < N := by
          have := (List.getElem?_eq_some_iff.1 hj).1
          rw [b8_len, List.length_take] at this; omega
        rw [addr_add, World.cell?, hheap]
        have : (b8 L)[I + j]? = some v := by
          rw [← hj]; unfold b8
          rw [List.getElem?_map, List.getElem?_map, List.getElem?_take_of_lt hjN, List.getElem?_drop]
        have := hcs _ _ this
        rw [← Nat.add_assoc] at this
        simpa using this
      have HS := Lib.hid hsrc; clear hsrc k3 hcs hheap
      unfold maxLen at k2
      go_wp2_with (with_reducible refine stop_at (o := ⟨some 71, _, _, _, _, _⟩) ?_)
      refine Lib.hid ?_
      have hcl : (b8 ((L.drop I).take N)).length = N := by rw [b8_len, List.length_take, List.length_drop]; omega
      refine wpList_copy_splice (o := ⟨some 71, _, _, _, _, _⟩) rfl _ _ 30 30 rfl 5 Try.underlying30 size_b8 _ _ _ _ _ _ rfl rfl w.heap.size 0 (b8 (List.replicate N 0)) 5 HX1.out (b8 ((L.drop I).take N)) ?_ (fun _ => ⟨rfl, _, rfl, HS.out⟩) ?_ (b8_one _) w.heap.size w HB1.out (Nat.le_refl _) ?_
      · rw [hcl, Nat.add_sub_cancel_left]; exact (Nat.min_self N).symm
      · rw [hcl, b8_len, List.length_replicate]; omega
      intro w2 HG2 hB2
      have hsp : splice (b8 (List.replicate N 0)) 0 (b8 ((L.drop I).take N)) = b8 ((L.drop I).take N) := splice_whole _ _ (by rw [hcl, b8_len, List.length_replicate])
      rw [hsp, ← HPt.out] at HG2
      have HB2 := Lib.hid hB2
      clear hsp hB2 HX1 HB1 HS
      go_wp2
      go_ret
      exact ⟨_, rfl, RdT.of_blk (g := w.heap.size) HG2.out (by rw [b8_len, partOf_len]; exact HN.out) (by rw [b8_len, partOf_len, ← HN.out]; exact Nat.le_refl _) (by unfold maxLen; omega), HB2.out⟩
    · have ebW : ((a : Int) == (W : Int)) = false := by simp; omega
      clear hfull hfi
      have HI := Lib.hid hI; clear hI
      go_wp2_with fail
      refine Can.wp_region_can (fun w' => w'.cell? ⟨p, 6, none⟩ = some (.int .i64 y) ∧ w'.cell? ⟨p, 3, none⟩ = some (.int .i64 W) ∧ w'.cell? ⟨p, 5, none⟩ = some (.int .i64 x)) 999 [0, 1, 2, 3, 4, 5, 6, 7, 8, 9, 10, 11, 12, 13, 14] (by kernel_rfl) (by kernel_rfl) (fun _ _ d _ _ h => by cases d <;> exact h) ⟨(cell_up c6 (bdr (bal (brf w) _))), (cell_up c3 (bdr (bal (brf w) _))), (cell_up c5 (bdr (bal (brf w) _)))⟩ (fun hHeld => ?_)
      repeat (refine Can.can_pure (v := ?_) rfl rfl (Or.inl ⟨by rfl, ?_⟩) ?_; rotate_left; (focus ((intro w hSw); (try dsimp only at hSw); go_simp; (try with_reducible rfl))); (try simp only [Act.put, List.getElem_toArray, List.getElem_cons_succ, List.getElem_cons_zero, List.setIfInBounds_toArray, List.set_cons_zero, List.set_cons_succ]))
      refine Can.can_done ?_
      clear hHeld hmk
      obtain ⟨w1, hw1⟩ : ∃ w1, w1 = World.drew (w.alloc (Obj.cells (rep N (Value.int IntKind.u8 0)) 5)) := ⟨_, rfl⟩
      have hb1 : Below w.heap.size w w1 := by rw [hw1]; exact bdr (bal (brf w) _)
      have hx1 : Blk w1 w.heap.size 5 (b8 (List.replicate N 0)).toArray := by
        rw [hw1]
        have := Blk.fresh w 5 (rep N (Value.int IntKind.u8 0))
        have e : rep N (Value.int IntKind.u8 0) = (b8 (List.replicate N 0)).toArray := by simp [rep, b8]
        rw [← e]; exact this.drew
      rw [← hw1]
      clear hw1
      have d2 := cell_up c2 hb1
      have d3 := cell_up c3 hb1
      have hv1 := HV.out
      have HX1 := Lib.hid hx1; clear hx1
      have HB1 := Lib.hid hb1; clear hb1
      clear c0 c1 c2 c3 c4 c5 c6 HV
      obtain ⟨A', cap', hA, k1, k2, k3⟩ := hv1
      injection hA with e1 _ e2
      subst e1 e2
      rw [b8_len] at k1 k3
      obtain ⟨bb, oo, cs, fr, rfl, hheap, hcs⟩ := k3 (by omega)
      have hbw : bb < w.heap.size := heap_lt hheap
      have hpw : p < w.heap.size := HP.out.lt
      have hheap := (HB1.out.block bb hbw).trans hheap
      have hsrc : ∀ J, J + a ≤ L.length → ∀ j v, (b8 ((L.drop J).take a))[j]? = some v → w1.cell? ((⟨bb, oo + J, none⟩ : Addr).add j) = some v := fun J hJ j v hj => by
        have hjN : j < a := by
          have := (List.getElem?_eq_some_iff.1 hj).1
          rw [b8_len, List.length_take] at this; omega
        rw [addr_add, World.cell?, hheap]
        have : (b8 L)[J + j]? = some v := by
          rw [← hj]; unfold b8
          rw [List.getElem?_map, List.getElem?_map, List.getElem?_take_of_lt hjN, List.getElem?_drop]
        have := hcs _ _ this
        rw [← Nat.add_assoc] at this
        simpa using this
      have HS := Lib.hid hsrc; clear hsrc k3 hcs hheap
      unfold maxLen at k2
      go_wp2
      go_loopw [7, 8] (fun iv rv wr => ∃ (r J : Nat), r ≤ b ∧ Hid (J = I + r * W) ∧ iv = .int .i64 J ∧ rv = .int .i64 r ∧ Hid (Blk wr w.heap.size 5 (b8 (fillA (partOf L W x y a b) 0 N (a * r))).toArray) ∧ Hid (Below w.heap.size w1 wr)) (fun _ rv _ => b - (intOf rv).toNat)
      case atStart =>
        refine ⟨0, I, Nat.zero_le _, Lib.hid (by omega), rfl, rfl, Lib.hid ?_, Lib.hid (Below.refl _ _)⟩
        rw [Nat.mul_zero, fill_zero]; exact HX1.out
      case round =>
        obtain ⟨r, J, hr, HJ, rfl, rfl, HXr, HBr⟩ := hrel
        clear HX1
        by_cases hlt : r < b
        · obtain ⟨R, hR⟩ : ∃ R, R = a * r := ⟨_, rfl⟩
          have hRN : R + a ≤ N := by
            rw [HN.out, hR]; have := Nat.mul_le_mul_left a (show r + 1 ≤ b by omega); rw [Nat.mul_add, Nat.mul_one] at this; exact this
          have sR : IntKind.i64.wrap ((r : Int) * (a : Int)) = (R : Int) := by
            have : (r : Int) * (a : Int) = (R : Int) := by rw [hR, Nat.mul_comm]; simp
            rw [this, IntKind.wrap_i64]; omega
          have hJ1 : J = (y + r) * W + x := by rw [HJ.out, HI.out, HY.out, Nat.add_mul]; omega
          have hJL : J + (W - x) ≤ L.length := by
            rw [hJ1, HL.out, Nat.mul_comm W H]
            have := Nat.mul_le_mul_right W (show y + r + 1 ≤ H by omega)
            rw [Nat.add_mul, Nat.one_mul] at this; omega
          have hJa : J + a ≤ L.length := by omega
          have hJW : J + W ≤ L.length + x := by omega
          have hrow := part_row L W x y a b r ha hlt (by rw [← hJ1]; exact hJa)
          rw [← hJ1, ← HN.out, ← hR] at hrow
          have HRow := Lib.hid hrow; clear hrow
          have HJ1 := Lib.hid hJ1; clear hJ1
          obtain ⟨T, hT⟩ : ∃ T, T = J + a := ⟨_, rfl⟩
          have sJ : IntKind.i64.wrap ((J : Int) + (a : Int)) = (T : Int) := by rw [IntKind.wrap_i64]; omega
          have sJW : IntKind.i64.wrap ((J : Int) + (W : Int)) = ((J + W : Nat) : Int) := by rw [IntKind.wrap_i64]; omega
          have e2 : wr.cell? ⟨p, 2, none⟩ = some (.slice (some ⟨bb, oo, none⟩) L.length c) := (below_cells HBr.out p 2 hpw).trans d2
          have e3 : wr.cell? ⟨p, 3, none⟩ = some (.int .i64 W) := (below_cells HBr.out p 3 hpw).trans d3
          have HRR := Lib.hid hR; clear hR
          have q1 : R ≤ N := by omega
          have q2 : R < N := by omega
          have q3 : T ≤ c := by omega
          have q5 : J ≤ T := by omega
          have q6 : T - J = a := by omega
          have q7 : IntKind.i64.wrap (T : Int) = (T : Int) := by rw [IntKind.wrap_i64]; omega
          have q8 : (J : Int) + (a : Int) = (T : Int) := by omega
          have q9 : ¬ c = J := by omega
          have q10 : ¬ N = R := by omega
          have HT := Lib.hid hT; clear hT
          have q4 : J < c := by omega
          go_wp2_with fail
          refine Can.wp_region_can (fun w' => w'.cell? ⟨p, 2, none⟩ = some (.slice (some ⟨bb, oo, none⟩) L.length c)) 12 [0, 1, 2, 3, 4, 5, 6, 7, 8, 9, 10, 11, 12] (by kernel_rfl) (by kernel_rfl) (fun _ _ d _ _ h => by cases d <;> exact h) e2 (fun hHeld => ?_)
          repeat (refine Can.can_pure (v := ?_) rfl rfl (Or.inl ⟨by rfl, ?_⟩) ?_; rotate_left; (focus ((intro w hSw); (try dsimp only at hSw); go_simp; (try with_reducible rfl))); (try simp only [Act.put, List.getElem_toArray, List.getElem_cons_succ, List.getElem_cons_zero, List.setIfInBounds_toArray, List.set_cons_zero, List.set_cons_succ]))
          have HSJ := HS.out J hJa
          have hcl : (b8 ((L.drop J).take a)).length = a := by rw [b8_len, List.length_take, List.length_drop]; omega
          have hfl : (fillA (partOf L W x y a b) 0 N R).length = N := by
            rw [fill_len _ _ _ _ (by rw [partOf_len, ← HN.out]; exact q1) (by rw [partOf_len, ← HN.out]; exact Nat.le_refl _)]
          refine Can.can_tail rfl rfl (by rfl) (fun K hK => ?_)
          refine step_copy rfl _ _ 30 30 rfl 5 Try.underlying30 size_b8 w.heap.size R (N - R) (N - R) ⟨bb, oo + J, none⟩ a (c - J) ?_ ?_ (b8 (fillA (partOf L W x y a b) 0 N R)) 5 (by rw [HRR.out]; exact HXr.out.drew) (b8 ((L.drop J).take a)) ?_ (fun j v hj => by rw [addr_add]; exact (below_cells HBr.out.drew bb _ hbw).trans (by have := HSJ j v hj; rwa [addr_add] at this)) ?_ (b8_one _) ?_
          · rfl
          · rfl
          · rw [hcl]; exact (Nat.min_eq_left (by omega)).symm
          · rw [hcl, b8_len, hfl]; exact hRN
          intro w2 hg2 hb2
          refine hK.out _ _ ?_
          clear hK K hHeld
          rw [splice_b8, HRow.out] at hg2
          have HG2 := Lib.hid hg2
          have hb3 := hb2 _ _ HBr.out.drew (Nat.le_refl _)
          have f3 : w2.cell? ⟨p, 3, none⟩ = some (.int .i64 W) := (below_cells hb3 p 3 hpw).trans d3
          have HB2 := Lib.hid hb3
          have HJ2 : Hid (J + W = I + (r + 1) * W) := Lib.hid (by rw [HJ.out, Nat.add_mul]; omega)
          clear hg2 hb2 HXr HBr HSJ hcl hfl HRow hb3 e2 e3 q8 q9 q10 q7
          go_wp2
          go_roundw
          case rel => exact ⟨r + 1, J + W, by omega, HJ2, by go_num, by go_num, HG2, HB2⟩
          case measure => simp [intOf]; omega
        · obtain rfl : r = b := by omega
          have hfin : fillA (partOf L W x y a r) 0 N (a * r) = partOf L W x y a r := by
            have := fill_full (partOf L W x y a r) 0
            rw [partOf_len] at this
            rw [HN.out]; exact this
          have hx2 := HXr.out
          rw [hfin] at hx2
          have HX2 := Lib.hid hx2
          have HB2 := Lib.hid (HB1.out.trans HBr.out)
          clear hfin hx2 HXr HBr
          go_wp2
          go_ret
          exact ⟨_, rfl, RdT.of_blk (g := w.heap.size) HX2.out (by rw [b8_len, partOf_len]; exact HN.out) (by rw [b8_len, partOf_len, ← HN.out]; exact Nat.le_refl _) (by unfold maxLen; omega), HB2.out⟩
end Go.Proofs.Ytimfaplnhlnjlaa
