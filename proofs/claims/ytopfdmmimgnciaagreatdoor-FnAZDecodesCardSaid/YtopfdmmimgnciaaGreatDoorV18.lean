/-
  WALKS: GetOne, Log, MultiplyBy.
-/
import Derived.Test.YtopfdmmimgnciaaGreatDoorV39
import Derived.Test.YtopfdmmimgnciaaGreatDoorV17
namespace Go.Proofs.YtopfdmmimgnciaaGreatDoor
open Go.RowKit

theorem getOne_any (g : Nat) (F : Gf.Fd) (w : World) (hf : FieldAt w g F) :
    Calls Tryz.prog 119 #[.pointer (some ⟨g, 0, none⟩)] w fun e w' => ∃ q, e = .returned (.pointer (some ⟨q, 0, none⟩)) ∧ PolyAt w q g [1] ∧ w' = w := by
  obtain ⟨ge, gl, qz, qo, ce, cl, h⟩ := hf
  have c2 : w.cell? ⟨g, 3, none⟩ = some (.pointer (some ⟨qo, 0, none⟩)) := by rw [h.blk.cell]; rfl
  have HZ := Lib.hid h.one
  clear h
  go_enter Tryz.func119, Tryz.ntmps119
  go_wp2
  go_ret
  exact ⟨qo, rfl, HZ.out, rfl⟩
set_option maxRecDepth 100000 in
set_option maxHeartbeats 8000000 in
/-- MultiplyBy, by what is not 0. -/
theorem mulBy_any (F : Gf.Fd) (hF : Gf.Ok F) (h12 : F.m ≤ 12) (g q1 c : Nat) (xs : List Nat) (w : World) (hf : FieldAt w g F) (hp1 : PolyAt w q1 g xs)
    (hx : ∀ x ∈ xs, x < F.s) (hc : c < F.s) (hc0 : 0 < c) (hxt : Tidy xs) (hx4 : xs.length ≤ 16384) :
    Calls Tryz.prog 125 #[.pointer (some ⟨q1, 0, none⟩), .int .i64 c] w fun e w' => ∃ q, e = .returned (.pointer (some ⟨q, 0, none⟩)) ∧ PolyAt w' q g (Gf.scaled F xs c) ∧ Below w.heap.size w w' := by
  have hs12 := s_le F h12
  have hxn := Gf.tidy_pos hxt
  have hst := Gf.scaled_tidy hF hxt hx hc0 hc
  obtain ⟨sx, kx, vx⟩ := id hp1
  obtain ⟨A, ca, rfl, ha1, ha2, ha3⟩ := vx.rd
  simp only [nv_len] at *
  unfold maxLen at ha2
  obtain ⟨ba, oa, rfl, hba, hca⟩ := ha3 hxn
  have x0 : w.cell? ⟨q1, 0, none⟩ = some (.pointer (some ⟨g, 0, none⟩)) := by rw [kx.cell]; rfl
  have x1 : w.cell? ⟨q1, 1, none⟩ = some (.slice (some ⟨ba, oa, none⟩) xs.length ca) := by rw [kx.cell]; rfl
  have HA := Lib.hid hca; clear hca ha3
  have HX := Lib.hid hx; clear hx
  clear kx vx
  have HF := Lib.hid hf; clear hf
  have HP1 := Lib.hid hp1; clear hp1
  have HT0 := Lib.hid (And.intro hxt hst); clear hxt hst
  have ec : ((c : Int) == 0) = false := by simp; omega
  rcases Nat.lt_or_ge 1 c with hc1 | hc1
  · have ec1 : ((c : Int) == 1) = false := by simp; omega
    have hmk : ∀ W, (Instr.makeSlice 25 (.int .i64 (xs.length : Int)) (.int .i64 (xs.length : Int))).run Tryz.prog W =
        .ok (.slice (some ⟨W.heap.size, 0, none⟩) xs.length xs.length) (W.alloc (.cells (nv (List.replicate xs.length 0)).toArray 3)) := fun W => by
      rw [← nv_rep]
      exact run_mk 25 3 (.int .i64 0) 8 Tryz.underlying25 info_int rfl _ (by omega) (by omega) W
    have HPl : Hid ((Gf.scaled F xs c).length = xs.length) := Lib.hid (Gf.scaled_len _ _ _)
    go_enter Tryz.func125, Tryz.ntmps125
    go_wp2
    clear hmk
    go_loopw [7] (fun iv wr => ∃ (i : Nat), i ≤ xs.length ∧ iv = .int .i64 i ∧ Hid (Blk wr w.heap.size 3 (nv (fillA (Gf.scaled F xs c) 0 xs.length i)).toArray) ∧ Hid (Below w.heap.size w wr)) (fun iv _ => xs.length - (intOf iv).toNat)
    case atStart => exact ⟨0, Nat.zero_le _, rfl, Lib.hid (by rw [fill_zero]; exact Blk.fresh w _ _), Lib.hid (bal (brf w) _)⟩
    case round =>
      obtain ⟨i, hi, rfl, HBk, HW⟩ := hrel
      by_cases hlt : i < xs.length
      · have hPi : i < (Gf.scaled F xs c).length := by rw [HPl.out]; exact hlt
        have hfl := fill_len (Gf.scaled F xs c) 0 xs.length i (by omega) (by rw [HPl.out]; omega)
        have hset := fill_set (Gf.scaled F xs c) 0 xs.length i hPi (by rw [HPl.out]; omega)
        have hv : (Gf.scaled F xs c)[i] = Gf.mul F xs[i] c := by simp [Gf.scaled]
        rw [hv] at hset
        have hxi := HX.out _ (List.getElem_mem hlt)
        have ca1 := HA.out i _ (nv_at xs i hlt)
        have cO : wr.cell? ⟨w.heap.size, i, none⟩ = some (.int .i64 (((fillA (Gf.scaled F xs c) 0 xs.length i)[i]'(by omega) : Nat) : Int)) := by rw [HBk.out.cell]; exact nv_cell _ _ (by omega)
        have fO : wr.frozen? ⟨w.heap.size, i, none⟩ = false := HBk.out.frozen _
        generalize (fillA (Gf.scaled F xs c) 0 xs.length i)[i]'(by omega) = o at *
        generalize xs[i] = x at *
        have cF : wr.cell? ⟨q1, 0, none⟩ = some (.pointer (some ⟨g, 0, none⟩)) := cell_up x0 HW.out
        have cG : wr.cell? ⟨q1, 1, none⟩ = some (.slice (some ⟨ba, oa, none⟩) xs.length ca) := cell_up x1 HW.out
        have cA : wr.cell? ⟨ba, oa + i, none⟩ = some (.int .i64 ((x : Nat) : Int)) := cell_up ca1 HW.out
        have hT := fun W hW => mulGF_any g F hF h12 x c hxi hc W hW
        generalize Gf.mul F x c = m at *
        have HT := Lib.hid hT; clear hT
        have HSet := Lib.hid hset; clear hset hv ca1 hfl hPi
        have HNx : ∀ n, Hid (Blk ((wr.drewN n).setCell ⟨w.heap.size, i, none⟩ (.int .i64 ((m : Nat) : Int))) w.heap.size 3 (nv (fillA (Gf.scaled F xs c) 0 xs.length (i + 1))).toArray) := fun n => Lib.hid (by
          have := (HBk.out.drewN n).put i (.int .i64 ((m : Nat) : Int))
          rw [nv_set, HSet.out] at this; exact this)
        have HWx := fun n => Lib.hid ((below_drewN HW.out n).setCell (p := ⟨w.heap.size, i, none⟩) (Nat.le_refl _) (.int .i64 ((m : Nat) : Int)))
        have HFu := fun n => HF.out.up (below_drewN HW.out n)
        have HFU := Lib.hid HFu; clear HFu
        have HNX := Lib.hid HNx; clear HNx
        have HWX := Lib.hid HWx; clear HWx
        clear HBk HW
        go_wp2
        refine Can.wp_region_can (fun w' => w'.cell? ⟨q1, 0, none⟩ = some (.pointer (some ⟨g, 0, none⟩)) ∧ w'.cell? ⟨q1, 1, none⟩ = some (.slice (some ⟨ba, oa, none⟩) xs.length ca) ∧ w'.cell? ⟨ba, oa + i, none⟩ = some (.int .i64 ((x : Nat) : Int)) ∧ w'.cell? ⟨w.heap.size, i, none⟩ = some (.int .i64 ((o : Nat) : Int)) ∧ w'.frozen? ⟨w.heap.size, i, none⟩ = false) 16 [0, 1, 2, 3, 4, 5, 6, 7, 8, 9, 10, 11, 12, 13, 14, 15, 16] (by kernel_rfl) (by kernel_rfl) (fun _ _ d _ _ h => by cases d <;> exact h) ⟨cF, cG, cA, cO, fO⟩ (fun hHeld => ?_)
        repeat (refine Can.can_pure (v := ?_) rfl rfl (Or.inl ⟨by rfl, ?_⟩) ?_; rotate_left; (focus ((intro w hSw); (try dsimp only at hSw); go_simp; (try with_reducible rfl))); (try simp only [Act.put, List.getElem_toArray, List.getElem_cons_succ, List.getElem_cons_zero, List.setIfInBounds_toArray, List.set_cons_zero, List.set_cons_succ]))
        refine Can.can_eff rfl rfl (by rfl) (fun K hK => ?_)
        go_simp
        refine (HT.out _ (HFU.out 1)).mono ?_
        rintro e w1 ⟨rfl, n, rfl⟩
        refine hK.out _ _ hHeld (fun hHeld1 => ?_)
        clear hK K
        (try simp only [Act.put, List.getElem_toArray, List.getElem_cons_succ, List.getElem_cons_zero, List.setIfInBounds_toArray, List.set_cons_zero, List.set_cons_succ])
        repeat (refine Can.can_pure (v := ?_) rfl rfl (Or.inl ⟨by rfl, ?_⟩) ?_; rotate_left; (focus ((intro w hSw); (try dsimp only at hSw); go_simp; (try with_reducible rfl))); (try simp only [Act.put, List.getElem_toArray, List.getElem_cons_succ, List.getElem_cons_zero, List.setIfInBounds_toArray, List.set_cons_zero, List.set_cons_succ]))
        have fO1 := hHeld1.2.2.2.2
        have cO1 := hHeld1.2.2.2.1
        refine Can.can_tail rfl rfl (by rfl) (fun K hK => ?_)
        go_simp
        refine hK.out _ _ ?_
        clear hK K
        clear hHeld hHeld1 cO1 fO1 cF cG cA cO fO
        go_wp2
        go_roundw
        case rel => exact ⟨i + 1, by omega, by go_num, HNX.out (1 + n), HWX.out (1 + n)⟩
        case measure => simp [intOf]; omega
      · obtain rfl : i = xs.length := by omega
        have HBk2 : Hid (Blk wr w.heap.size 3 (nv (Gf.scaled F xs c)).toArray) := Lib.hid (by
          have := HBk.out
          have e := fill_end (Gf.scaled F xs c) 0 xs.length
          rw [HPl.out, Nat.sub_self, List.replicate_zero, List.append_nil] at e
          rw [e] at this; exact this)
        have cF : wr.cell? ⟨q1, 0, none⟩ = some (.pointer (some ⟨g, 0, none⟩)) := cell_up x0 HW.out
        clear HBk
        have HTs := Lib.hid HT0.out.2; clear HT0
        obtain ⟨out, hout⟩ : ∃ out, out = Gf.scaled F xs c := ⟨_, rfl⟩
        rw [← hout] at HBk2 HPl HTs
        have HOut := Lib.hid hout; clear hout
        go_wp2_with fail
        refine (newPoly_any g _ out _ (RdT.of_blk HBk2.out (by rw [nv_len, HPl.out]) (by rw [nv_len, HPl.out]; omega) (by unfold maxLen; omega)) HTs.out.1).mono ?_
        rintro e w3 ⟨q, rfl, hq, hb3⟩
        rw [tidy_of _ HTs.out, HOut.out] at hq
        go_wp2
        go_ret
        exact ⟨q, rfl, hq, bup HW.out hb3⟩
  · obtain rfl : c = 1 := by omega
    rw [Gf.scaled_one hF HX.out]
    go_enter Tryz.func125, Tryz.ntmps125
    go_wp2
    go_ret
    exact ⟨q1, rfl, HP1.out, brf _⟩
end Go.Proofs.YtopfdmmimgnciaaGreatDoor
