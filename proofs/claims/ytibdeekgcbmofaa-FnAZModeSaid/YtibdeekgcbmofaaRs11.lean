/-
  WALKS: spec.RSProduct.
-/
import Derived.Test.YtibdeekgcbmofaaRs10
import Derived.Test.YtibdeekgcbmofaaPr
import Derived.Test.YtibdeekgcbmofaaCan
namespace Go.Proofs.Ytibdeekgcbmofaa
open Go.RowKit

theorem nv_set (out : List Nat) (j v : Nat) : (nv out).toArray.setIfInBounds j (.int .i64 (v : Int)) = (nv (out.set j v)).toArray := by
  simp [nv, List.map_set]
theorem nv_cell (out : List Nat) (j : Nat) (h : j < out.length) : (nv out).toArray[j]? = some (.int .i64 ((out[j] : Nat) : Int)) := by
  rw [List.getElem?_toArray]; exact nv_at out j h
theorem nv_rep (n : Nat) : rep n (.int .i64 0) = (nv (List.replicate n 0)).toArray := by
  simp [rep, nv]

set_option maxRecDepth 100000 in
set_option maxHeartbeats 4000000 in
/-- spec.RSProduct. -/
theorem product_any (F : Gf.Fd) (hF : Gf.Ok F) (h12 : F.m ≤ 12) (a b : Value) (xs ys : List Nat) (w : World) (ha : Rd w w.heap.size a (nv xs)) (hb : Rd w w.heap.size b (nv ys))
    (hx : ∀ x ∈ xs, x < F.s) (hy : ∀ y ∈ ys, y < F.s) (hxn : 0 < xs.length) (hyn : 0 < ys.length) (hx4 : xs.length ≤ 16384) (hy4 : ys.length ≤ 16384) :
    Calls Try.prog 22 #[.agg #[.int .i64 F.p, .int .i64 F.s, .int .i64 F.b], a, b] w fun e w' =>
      ∃ v, e = .returned v ∧ RdT w' 3 v (nv (tidy (Gf.prod F xs ys))) ∧ Below w.heap.size w w' := by
  have hs12 := s_le F h12
  obtain ⟨A, ca, rfl, ha1, ha2, ha3⟩ := ha
  obtain ⟨C, cb, rfl, hb1, hb2, hb3⟩ := hb
  simp only [nv_len] at *
  unfold maxLen at ha2 hb2
  obtain ⟨ba, oa, rfl, hba, hca⟩ := ha3 hxn
  obtain ⟨bb, ob, rfl, hbb, hcb⟩ := hb3 hyn
  have HA := Lib.hid hca; clear hca ha3
  have HB := Lib.hid hcb; clear hcb hb3
  have HX := Lib.hid hx; clear hx
  have HY := Lib.hid hy; clear hy
  have hmk : ∀ W, (Instr.makeSlice 24 (.int .i64 ((xs.length : Int) + (ys.length : Int) - 1)) (.int .i64 ((xs.length : Int) + (ys.length : Int) - 1))).run Try.prog W =
      .ok (.slice (some ⟨W.heap.size, 0, none⟩) (xs.length + ys.length - 1) (xs.length + ys.length - 1)) (W.alloc (.cells (nv (List.replicate (xs.length + ys.length - 1) 0)).toArray 3)) := fun W => by
    have e : ((xs.length : Int) + (ys.length : Int) - 1) = ((xs.length + ys.length - 1 : Nat) : Int) := by omega
    rw [e, ← nv_rep]
    exact run_mk 24 3 (.int .i64 0) 8 Try.underlying24 info_int rfl _ (by omega) (by omega) W
  obtain ⟨N, hN⟩ : ∃ N, N = xs.length + ys.length - 1 := ⟨_, rfl⟩
  rw [← hN] at hmk
  have hN1 : N ≤ xs.length + ys.length - 1 := by omega
  have hN2 : xs.length + ys.length - 1 ≤ N := by omega
  have HN := Lib.hid hN; clear hN
  go_enter Try.func22, Try.ntmps22
  go_wp2
  clear hmk
  go_loopw [8] (fun iv wr => ∃ (i : Nat) (out : List Nat), i ≤ xs.length ∧ iv = .int .i64 i ∧ out.length ≤ N ∧ N ≤ out.length ∧ Hid (∀ z ∈ out, z < F.s) ∧ Hid (Gf.outer F (xs.drop i) ys i out = Gf.prod F xs ys) ∧
      Hid (Blk wr (w.heap.size + 1) 3 (nv out).toArray) ∧ Hid (Blk wr w.heap.size 27 #[.int .i64 F.p, .int .i64 F.s, .int .i64 F.b]) ∧ Hid (Below w.heap.size w wr)) (fun iv _ => xs.length - (intOf iv).toNat)
  case atStart =>
    refine ⟨0, List.replicate N 0, Nat.zero_le _, rfl, by simp, by simp, fun z hz => ?_, ?_, Blk.fresh' (by simp), (Blk.fresh _ _ _).alloc _, ?_⟩
    · have := List.eq_of_mem_replicate hz; have := Gf.s_pos F; omega
    · show Gf.outer F xs ys 0 _ = _
      rw [HN.out]; rfl
    · exact bal (bal (brf w) _) _
  case round =>
    obtain ⟨i, out, hi, rfl, ho1, ho2, HO, HP, HBk, HBx, HW⟩ := hrel
    obtain ⟨wo, rfl⟩ : ∃ wo : World, wo = wr := ⟨_, rfl⟩
    by_cases hlt : i < xs.length
    · have hP2 := HP.out
      rw [Gf.outer_drop F xs ys i out hlt] at hP2
      have hxi : xs[i] < F.s := HX.out _ (List.getElem_mem hlt)
      have ca1 := HA.out i _ (nv_at xs i hlt)
      generalize xs[i] = x at *
      have HP2 := Lib.hid hP2; clear hP2
      go_wp2
      go_loopw [9] (fun kv wr => ∃ (k : Nat) (ot : List Nat), k ≤ ys.length ∧ kv = .int .i64 k ∧ ot.length ≤ N ∧ N ≤ ot.length ∧ Hid (∀ z ∈ ot, z < F.s) ∧
          Hid (Gf.outer F (xs.drop (i + 1)) ys (i + 1) (Gf.inner F x (ys.drop k) (i + k) ot) = Gf.prod F xs ys) ∧
          Hid (Blk wr (w.heap.size + 1) 3 (nv ot).toArray) ∧ Hid (Blk wr w.heap.size 27 #[.int .i64 F.p, .int .i64 F.s, .int .i64 F.b]) ∧ Hid (Below w.heap.size w wr)) (fun kv _ => ys.length - (intOf kv).toNat)
      case atStart => exact ⟨0, out, Nat.zero_le _, rfl, ho1, ho2, HO, HP2, HBk, HBx, HW⟩
      case round =>
        clear HO HP HBk HBx HW HP2 ho1 ho2
        obtain ⟨k, ot, hk, rfl, ho1, ho2, HO, HP, HBk, HBx, HW⟩ := hrel
        by_cases hlk : k < ys.length
        · have hP2 := HP.out
          rw [Gf.inner_drop F x ys k (i + k) ot hlk] at hP2
          have hyk : ys[k] < F.s := HY.out _ (List.getElem_mem hlk)
          have cb1 := HB.out k _ (nv_at ys k hlk)
          generalize ys[k] = y at *
          obtain ⟨x0, x1, x2⟩ := HBx.out.three
          have cA : wr.cell? ⟨ba, oa + i, none⟩ = some (.int .i64 ((x : Nat) : Int)) := cell_up ca1 HW.out
          have cB : wr.cell? ⟨bb, ob + k, none⟩ = some (.int .i64 ((y : Nat) : Int)) := cell_up cb1 HW.out
          have cO : wr.cell? ⟨w.heap.size + 1, i + k, none⟩ = some (.int .i64 ((ot[i + k]'(by omega) : Nat) : Int)) := by rw [HBk.out.cell]; exact nv_cell ot _ (by omega)
          have fO : wr.frozen? ⟨w.heap.size + 1, i + k, none⟩ = false := HBk.out.frozen _
          have hov : ot[i + k]'(by omega) < F.s := HO.out _ (List.getElem_mem _)
          have hgd : ot.getD (i + k) 0 = ot[i + k]'(by omega) := getD_lt _ _ _ (by omega)
          generalize ot[i + k]'(by omega) = o at *
          have hmul : Gf.mul F x y < F.s := Gf.mul_lt hF y hxi
          have hadd : Gf.addAt ot (i + k) (Gf.mul F x y) = ot.set (i + k) (o ^^^ Gf.mul F x y) := by unfold Gf.addAt; rw [hgd]
          rw [hadd] at hP2
          have hlt2 : ∀ z ∈ ot.set (i + k) (o ^^^ Gf.mul F x y), z < F.s := by rw [← hadd]; exact Gf.addAt_lt HO.out hmul
          have HL2 := Lib.hid hlt2; clear hlt2 hadd hgd
          have HP2 := Lib.hid hP2; clear hP2
          have hT := fun W => times_any F hF h12 x y W hxi hyk
          generalize Gf.mul F x y = m at *
          have hxor := i64_xor o m (by omega) (by omega)
          clear ca1 cb1
          have HT := Lib.hid hT; clear hT
          obtain ⟨s1, s2, s3, s4⟩ := sum_ix i k N (by omega) (by omega)
          go_wp2
          refine Can.wp_region_can (fun w' => w'.cell? ⟨w.heap.size, 0, none⟩ = some (.int .i64 F.p) ∧ w'.cell? ⟨w.heap.size, 1, none⟩ = some (.int .i64 F.s) ∧ w'.cell? ⟨w.heap.size, 2, none⟩ = some (.int .i64 F.b) ∧
              w'.cell? ⟨ba, oa + i, none⟩ = some (.int .i64 ((x : Nat) : Int)) ∧ w'.cell? ⟨bb, ob + k, none⟩ = some (.int .i64 ((y : Nat) : Int)) ∧ w'.cell? ⟨w.heap.size + 1, i + k, none⟩ = some (.int .i64 ((o : Nat) : Int)))
            22 [0, 1, 2, 3, 4, 5, 6, 7, 8, 9, 10, 11, 12, 13, 14, 15, 16, 17, 18, 21, 19, 20, 22] (by kernel_rfl) (by kernel_rfl) (fun _ _ d _ _ h => by cases d <;> exact h) ⟨x0, x1, x2, cA, cB, cO⟩ (fun hHeld => ?_)
          repeat (refine Can.can_pure (v := ?_) rfl rfl (Or.inl ⟨by rfl, ?_⟩) ?_; rotate_left; focus ((intro w hSw); (try dsimp only at hSw); go_simp; (try with_reducible rfl)); (try simp only [Act.put, List.setIfInBounds_toArray, List.set_cons_zero, List.set_cons_succ]))
          refine Can.can_eff rfl rfl (by rfl) (fun K hK => ?_)
          go_simp
          refine (HT.out _).mono ?_
          rintro e w1 ⟨rfl, hb1'⟩
          refine hK.out _ _ ⟨cell_up hHeld.1 hb1', cell_up hHeld.2.1 hb1', cell_up hHeld.2.2.1 hb1', cell_up hHeld.2.2.2.1 hb1', cell_up hHeld.2.2.2.2.1 hb1', cell_up hHeld.2.2.2.2.2 hb1'⟩ (fun hHeld1 => ?_)
          clear hK K
          (try simp only [Act.put, List.setIfInBounds_toArray, List.set_cons_zero, List.set_cons_succ])
          repeat (refine Can.can_pure (v := ?_) rfl rfl (Or.inl ⟨by rfl, ?_⟩) ?_; rotate_left; focus ((intro w hSw); (try dsimp only at hSw); go_simp; (try with_reducible rfl)); (try simp only [Act.put, List.setIfInBounds_toArray, List.set_cons_zero, List.set_cons_succ]))
          have fO1 : w1.frozen? ⟨w.heap.size + 1, i + k, none⟩ = false := (HBk.out.drew.up hb1').frozen _
          have cO1 := hHeld1.2.2.2.2.2
          refine Can.can_tail rfl rfl (by rfl) (fun K hK => ?_)
          go_simp
          refine hK.out _ _ ?_
          clear hK K
          clear s1 s2 s3 s4 hHeld hHeld1 cO1 fO1 hxor
          have hW1 := Lib.hid (((HW.out.drew).trans (hb1'.mono HW.out.drew.size)).setCell (p := ⟨w.heap.size + 1, i + k, none⟩) (by simp) (.int .i64 ((o ^^^ m : Nat) : Int)))
          have hk1 : Hid (Blk (w1.setCell ⟨w.heap.size + 1, i + k, none⟩ (.int .i64 ((o ^^^ m : Nat) : Int))) (w.heap.size + 1) 3 (nv (ot.set (i + k) (o ^^^ m))).toArray) := by
            have := (HBk.out.drew.up hb1').put (i + k) (.int .i64 ((o ^^^ m : Nat) : Int))
            rw [nv_set] at this; exact this
          have hx1 := Lib.hid ((HBx.out.drew.up hb1').far (p := ⟨w.heap.size + 1, i + k, none⟩) (by simp) (.int .i64 ((o ^^^ m : Nat) : Int)))
          clear hb1'
          go_wp2
          go_roundw
          case rel => exact ⟨k + 1, _, by omega, by go_num, by rw [List.length_set]; exact ho1, by rw [List.length_set]; exact ho2, HL2, by rw [← Nat.add_assoc]; exact HP2.out, hk1, hx1, hW1⟩
          case measure => simp [intOf]; omega
        · obtain rfl : k = ys.length := by omega
          have hP2 := HP.out
          rw [List.drop_length] at hP2
          have HP2 : Hid (Gf.outer F (xs.drop (i + 1)) ys (i + 1) ot = Gf.prod F xs ys) := hP2
          clear hP2 ca1
          go_wp2
          go_roundw
          case rel => exact ⟨i + 1, ot, by omega, by go_num, ho1, ho2, HO, HP2, HBk, HBx, HW⟩
          case measure => simp [intOf]; omega
    · obtain rfl : i = xs.length := by omega
      have hP2 := HP.out
      rw [List.drop_length] at hP2
      have HP2 : Hid (out = Gf.prod F xs ys) := hP2
      clear hP2
      go_wp2_with fail
      refine (tidy_any _ out _ (Rd.of_blk HBk.out (by rw [nv_len]; omega) (by rw [nv_len]; omega) (by unfold maxLen; omega)) (by rintro rfl; simp at ho2; omega) (by omega)).mono ?_
      rintro e w1 ⟨v1, rfl, hv1, hb1'⟩
      go_wp2
      go_ret
      refine ⟨v1, rfl, ?_, bup HW.out hb1'⟩
      rw [← HP2.out]; exact hv1
end Go.Proofs.Ytibdeekgcbmofaa
