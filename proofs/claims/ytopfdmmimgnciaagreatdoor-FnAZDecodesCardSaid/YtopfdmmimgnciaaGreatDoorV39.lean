/-
  WALKS: products with a monomial, and monomials.
-/
import Derived.Test.YtopfdmmimgnciaaGreatDoorV10
namespace Go.Proofs.YtopfdmmimgnciaaGreatDoor
open Go.RowKit

set_option maxRecDepth 100000 in
set_option maxHeartbeats 8000000 in
/-- MultiplyByMonomial. -/
theorem monoMul_any (F : Gf.Fd) (hF : Gf.Ok F) (h12 : F.m ≤ 12) (g q1 d c : Nat) (xs : List Nat) (w : World) (hf : FieldAt w g F) (hp1 : PolyAt w q1 g xs)
    (hx : ∀ x ∈ xs, x < F.s) (hc : c < F.s) (hxt : 0 < xs.length) (hx4 : xs.length ≤ 16384) (hd4 : d ≤ 16384) :
    Calls Tryz.prog 123 #[.pointer (some ⟨q1, 0, none⟩), .int .i64 d, .int .i64 c] w (MadePoly w g (tidy (Gf.scaled F xs c ++ List.replicate d 0))) := by
  have hs12 := s_le F h12
  obtain ⟨sx, kx, vx⟩ := id hp1
  obtain ⟨A, ca, rfl, ha1, ha2, ha3⟩ := vx.rd
  simp only [nv_len] at *
  unfold maxLen at ha2
  obtain ⟨ba, oa, rfl, hba, hca⟩ := ha3 hxt
  have x0 : w.cell? ⟨q1, 0, none⟩ = some (.pointer (some ⟨g, 0, none⟩)) := by rw [kx.cell]; rfl
  have x1 : w.cell? ⟨q1, 1, none⟩ = some (.slice (some ⟨ba, oa, none⟩) xs.length ca) := by rw [kx.cell]; rfl
  have HA := Lib.hid hca; clear hca ha3
  have HX := Lib.hid hx; clear hx
  clear kx vx
  have HF := Lib.hid hf; clear hf
  have HP1 := Lib.hid hp1; clear hp1
  rcases Nat.eq_zero_or_pos c with rfl | hc0
  · have e : tidy (Gf.scaled F xs 0 ++ List.replicate d 0) = [0] := by
      rw [Gf.scaled_zero, List.replicate_append_replicate, tidy_rep _ (by omega)]
    rw [e]
    go_enter Tryz.func123, Tryz.ntmps123
    go_wp2_with fail
    refine (getZero_any g F _ HF.out).mono ?_
    rintro e w1 ⟨q, rfl, hq, rfl⟩
    go_wp2
    go_ret2
    exact ⟨q, rfl, hq, brf _⟩
  · have ec : ((c : Int) == 0) = false := by simp; omega
    have hmk : ∀ W, (Instr.makeSlice 25 (.int .i64 ((xs.length : Int) + (d : Int))) (.int .i64 ((xs.length : Int) + (d : Int)))).run Tryz.prog W =
        .ok (.slice (some ⟨W.heap.size, 0, none⟩) (xs.length + d) (xs.length + d)) (W.alloc (.cells (nv (List.replicate (xs.length + d) 0)).toArray 3)) := fun W => by
      have e : ((xs.length : Int) + (d : Int)) = ((xs.length + d : Nat) : Int) := by omega
      rw [e, ← nv_rep]
      exact run_mk 25 3 (.int .i64 0) 8 Tryz.underlying25 info_int rfl _ (by omega) (by omega) W
    obtain ⟨N, hN⟩ : ∃ N, N = xs.length + d := ⟨_, rfl⟩
    rw [← hN] at hmk
    have hN1 : N ≤ xs.length + d := by omega
    have hN2 : xs.length + d ≤ N := by omega
    have HN := Lib.hid hN; clear hN
    have HPl : Hid ((Gf.scaled F xs c).length = xs.length) := Lib.hid (Gf.scaled_len _ _ _)
    go_enter Tryz.func123, Tryz.ntmps123
    go_wp2
    clear hmk
    go_loopw [10] (fun iv wr => ∃ (i : Nat), i ≤ xs.length ∧ iv = .int .i64 i ∧ Hid (Blk wr w.heap.size 3 (nv (fillA (Gf.scaled F xs c) 0 N i)).toArray) ∧ Hid (Below w.heap.size w wr)) (fun iv _ => xs.length - (intOf iv).toNat)
    case atStart => exact ⟨0, Nat.zero_le _, rfl, Lib.hid (by rw [fill_zero]; exact Blk.fresh w _ _), Lib.hid (bal (brf w) _)⟩
    case round =>
      obtain ⟨i, hi, rfl, HBk, HW⟩ := hrel
      by_cases hlt : i < xs.length
      · have hPi : i < (Gf.scaled F xs c).length := by rw [HPl.out]; exact hlt
        have hiN : i < N := by omega
        have hfl := fill_len (Gf.scaled F xs c) 0 N i (by omega) (by rw [HPl.out]; omega)
        have hset := fill_set (Gf.scaled F xs c) 0 N i hPi (by rw [HPl.out]; omega)
        have hv : (Gf.scaled F xs c)[i] = Gf.mul F xs[i] c := by simp [Gf.scaled]
        rw [hv] at hset
        have hxi := HX.out _ (List.getElem_mem hlt)
        have ca1 := HA.out i _ (nv_at xs i hlt)
        have cO : wr.cell? ⟨w.heap.size, i, none⟩ = some (.int .i64 (((fillA (Gf.scaled F xs c) 0 N i)[i]'(by omega) : Nat) : Int)) := by rw [HBk.out.cell]; exact nv_cell _ _ (by omega)
        have fO : wr.frozen? ⟨w.heap.size, i, none⟩ = false := HBk.out.frozen _
        generalize (fillA (Gf.scaled F xs c) 0 N i)[i]'(by omega) = o at *
        generalize xs[i] = x at *
        have cF : wr.cell? ⟨q1, 0, none⟩ = some (.pointer (some ⟨g, 0, none⟩)) := cell_up x0 HW.out
        have cG : wr.cell? ⟨q1, 1, none⟩ = some (.slice (some ⟨ba, oa, none⟩) xs.length ca) := cell_up x1 HW.out
        have cA : wr.cell? ⟨ba, oa + i, none⟩ = some (.int .i64 ((x : Nat) : Int)) := cell_up ca1 HW.out
        have hT := fun W hW => mulGF_any g F hF h12 x c hxi hc W hW
        generalize Gf.mul F x c = m at *
        have HT := Lib.hid hT; clear hT
        have HSet := Lib.hid hset; clear hset hv ca1 hfl hPi
        have HNx : ∀ n, Hid (Blk ((wr.drewN n).setCell ⟨w.heap.size, i, none⟩ (.int .i64 ((m : Nat) : Int))) w.heap.size 3 (nv (fillA (Gf.scaled F xs c) 0 N (i + 1))).toArray) := fun n => Lib.hid (by
          have := (HBk.out.drewN n).put i (.int .i64 ((m : Nat) : Int))
          rw [nv_set, HSet.out] at this; exact this)
        have HWx := fun n => Lib.hid ((below_drewN HW.out n).setCell (p := ⟨w.heap.size, i, none⟩) (Nat.le_refl _) (.int .i64 ((m : Nat) : Int)))
        have HFu := fun n => HF.out.up (below_drewN HW.out n)
        have HFU := Lib.hid HFu; clear HFu
        have HNX := Lib.hid HNx; clear HNx
        have HWX := Lib.hid HWx; clear HWx
        clear HBk HW
        go_wp2
        refine Can.wp_region_can (fun w' => w'.cell? ⟨q1, 0, none⟩ = some (.pointer (some ⟨g, 0, none⟩)) ∧ w'.cell? ⟨q1, 1, none⟩ = some (.slice (some ⟨ba, oa, none⟩) xs.length ca) ∧ w'.cell? ⟨ba, oa + i, none⟩ = some (.int .i64 ((x : Nat) : Int)) ∧ w'.cell? ⟨w.heap.size, i, none⟩ = some (.int .i64 ((o : Nat) : Int)) ∧ w'.frozen? ⟨w.heap.size, i, none⟩ = false) 16 [0, 1, 2, 3, 4, 5, 6, 7, 8, 9, 10, 11, 12, 13, 14, 15, 16] (by kernel_rfl) (by kernel_rfl) (fun _ _ d _ _ h => by cases d <;> exact h) ⟨cF, cG, cA, cO, fO⟩ (fun hHeld => ?_)
        repeat (refine Can.can_pure (v := ?_) rfl rfl (Or.inl ⟨by rfl, ?_⟩) ?_; rotate_left; (focus ((intro w hSw); (try dsimp only at hSw); go_simp; (try with_reducible rfl))); (try simp only [Act.put, List.getElem_toArray, List.getElem_cons_succ, List.getElem_cons_zero, List.setIfInBounds_toArray, List.set_cons_zero, List.set_cons_succ]))
        refine Can.can_eff rfl rfl (by rfl) (fun K hK => ?_)
        go_simp
        refine (HT.out _ (HFU.out 1)).mono ?_
        rintro e w1 ⟨rfl, n, rfl⟩
        refine hK.out _ _ hHeld (fun hHeld1 => ?_)
        clear hK K
        (try simp only [Act.put, List.getElem_toArray, List.getElem_cons_succ, List.getElem_cons_zero, List.setIfInBounds_toArray, List.set_cons_zero, List.set_cons_succ])
        repeat (refine Can.can_pure (v := ?_) rfl rfl (Or.inl ⟨by rfl, ?_⟩) ?_; rotate_left; (focus ((intro w hSw); (try dsimp only at hSw); go_simp; (try with_reducible rfl))); (try simp only [Act.put, List.getElem_toArray, List.getElem_cons_succ, List.getElem_cons_zero, List.setIfInBounds_toArray, List.set_cons_zero, List.set_cons_succ]))
        have fO1 := hHeld1.2.2.2.2
        have cO1 := hHeld1.2.2.2.1
        refine Can.can_tail rfl rfl (by rfl) (fun K hK => ?_)
        go_simp
        refine hK.out _ _ ?_
        clear hK K
        clear hHeld hHeld1 cO1 fO1 cF cG cA cO fO
        go_wp2
        go_roundw
        case rel => exact ⟨i + 1, by omega, by go_num, HNX.out (1 + n), HWX.out (1 + n)⟩
        case measure => simp [intOf]; omega
      · obtain rfl : i = xs.length := by omega
        have HBk2 : Hid (Blk wr w.heap.size 3 (nv (Gf.scaled F xs c ++ List.replicate d 0)).toArray) := Lib.hid (by
          have := HBk.out
          have e := fill_end (Gf.scaled F xs c) 0 N
          rw [HPl.out, HN.out, Nat.add_sub_cancel_left] at e
          rw [HN.out, e] at this; exact this)
        have HLn : Hid ((Gf.scaled F xs c ++ List.replicate d 0).length = N) := Lib.hid (by rw [List.length_append, HPl.out, List.length_replicate]; omega)
        have cF : wr.cell? ⟨q1, 0, none⟩ = some (.pointer (some ⟨g, 0, none⟩)) := cell_up x0 HW.out
        clear HBk
        generalize Gf.scaled F xs c ++ List.replicate d 0 = out at *
        go_wp2_with fail
        refine (newPoly_any g _ out _ (RdT.of_blk HBk2.out (by rw [nv_len, HLn.out]) (by rw [nv_len, HLn.out]; omega) (by unfold maxLen; omega)) (by intro h0; have := HLn.out; rw [h0] at this; simp at this; omega)).mono ?_
        rintro e w3 ⟨q, rfl, hq, hb3⟩
        go_wp2
        go_ret2
        exact ⟨q, rfl, hq, bup HW.out hb3⟩

set_option maxRecDepth 100000 in
set_option maxHeartbeats 2000000 in
/-- BuildMonomial, of a coefficient that is not 0. -/
theorem monomial_any (F : Gf.Fd) (_h12 : F.m ≤ 12) (g d c : Nat) (w : World) (hd4 : d ≤ 16384) (hc0 : 0 < c) :
    Calls Tryz.prog 101 #[.pointer (some ⟨g, 0, none⟩), .int .i64 d, .int .i64 c] w (MadePoly w g (c :: List.replicate d 0)) := by
  have ec : ((c : Int) == 0) = false := by simp; omega
  have hmk := fun W => mk_ints (d + 1) W (by omega)
  have hcast : ((d + 1 : Nat) : Int) = (d : Int) + 1 := by omega
  rw [hcast] at hmk
  clear hcast
  have hput : Blk (w.alloc (.cells ((nv (List.replicate (d + 1) 0)).toArray.setIfInBounds 0 (.int .i64 (c : Int))) 3)) w.heap.size 3 (nv (c :: List.replicate d 0)).toArray := by
    rw [nv_set]
    exact Blk.fresh w 3 _
  have c0 : (w.alloc (.cells (nv (List.replicate (d + 1) 0)).toArray 3)).cell? ⟨w.heap.size, 0, none⟩ = some (.int .i64 0) := by
    rw [(Blk.fresh _ _ _).cell]; rfl
  have f0 : (w.alloc (.cells (nv (List.replicate (d + 1) 0)).toArray 3)).frozen? ⟨w.heap.size, 0, none⟩ = false := (Blk.fresh _ _ _).frozen _
  have ht : tidy (c :: List.replicate d 0) = c :: List.replicate d 0 := Gf.tidy_cons_ne _ (by omega)
  have hB := bal (brf w) (.cells ((nv (List.replicate (d + 1) 0)).toArray.setIfInBounds 0 (.int .i64 (c : Int))) 3)
  have hl : (c :: List.replicate d 0).length = d + 1 := by simp
  have hne : c :: List.replicate d 0 ≠ [] := by simp
  generalize (nv (List.replicate (d + 1) 0)).toArray = Z at *
  generalize c :: List.replicate d 0 = out at *
  have HPut := Lib.hid hput; clear hput
  have HT := Lib.hid ht; clear ht
  have HB := Lib.hid hB; clear hB
  have HL := Lib.hid hl; clear hl
  have hd1 : 0 < d + 1 := by omega
  go_enter Tryz.func101, Tryz.ntmps101
  go_wp2_with fail
  refine (newPoly_any g _ out _ (RdT.of_blk HPut.out (by rw [nv_len, HL.out]) (by rw [nv_len, HL.out]; omega) (by unfold maxLen; omega)) hne).mono ?_
  rintro e w3 ⟨q, rfl, hq, hb3⟩
  rw [HT.out] at hq
  go_wp2
  go_ret2
  exact ⟨q, rfl, hq, bup HB.out hb3⟩
end Go.Proofs.YtopfdmmimgnciaaGreatDoor
