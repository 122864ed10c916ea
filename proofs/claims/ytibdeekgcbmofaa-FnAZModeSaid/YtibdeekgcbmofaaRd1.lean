/-
  WALKS: the decoder of words that are a code's.
-/
import Derived.Test.YtibdeekgcbmofaaRe4
namespace Go.Proofs.Ytibdeekgcbmofaa
open Go.RowKit

theorem getBase_any (g : Nat) (F : Gf.Fd) (w : World) (hf : FieldAt w g F) :
    Calls Try.prog 33 #[.pointer (some ⟨g, 0, none⟩)] w fun e w' => e = .returned (.int .i64 F.b) ∧ w' = w := by
  obtain ⟨ge, gl, qz, qo, ce, cl, h⟩ := hf
  have c6 : w.cell? ⟨g, 6, none⟩ = some (.int .i64 F.b) := by rw [h.blk.cell]; rfl
  clear h
  go_enter Try.func33, Try.ntmps33
  go_wp2
  go_ret
  exact ⟨rfl, rfl⟩
theorem newDecoder_any (g : Nat) (w : World) :
    Calls Try.prog 24 #[.pointer (some ⟨g, 0, none⟩)] w fun e w' => ∃ gd, e = .returned (.pointer (some ⟨gd, 0, none⟩)) ∧ Blk w' gd 67 #[.pointer (some ⟨g, 0, none⟩)] ∧ Below w.heap.size w w' := by
  go_enter Try.func24, Try.ntmps24
  go_wp2
  go_ret
  exact ⟨_, rfl, Blk.fresh _ _ _, bal (brf w) _⟩
theorem evaluate_zero (F : Gf.Fd) (hF : Gf.Ok F) (h12 : F.m ≤ 12) (g q a : Nat) (xs : List Nat) (w : World) (hf : FieldAt w g F) (hp : PolyAt w q g xs)
    (hx : ∀ x ∈ xs, x < F.s) (ha : a < F.s) (hxn : 0 < xs.length) (hz : Gf.ev F a xs = 0) :
    Calls Try.prog 31 #[.pointer (some ⟨q, 0, none⟩), .int .i64 a] w fun e w' => e = .returned (.int .i64 0) ∧ Below w.heap.size w w' :=
  (evaluate_any F hF h12 g q a xs w hf hp hx ha hxn).mono fun e w' ⟨he, hb⟩ => ⟨by rw [he, hz]; rfl, hb⟩
theorem rep_set (n j : Nat) : (List.replicate n 0).set j 0 = List.replicate n 0 := by
  apply List.ext_getElem?
  intro i
  rw [List.getElem?_set]
  split
  · subst_vars
    split
    · rename_i h; rw [List.length_replicate] at h; rw [List.getElem?_replicate_of_lt h]
    · rename_i h; rw [List.length_replicate] at h; rw [List.getElem?_eq_none (by rw [List.length_replicate]; omega)]
  · rfl

set_option maxRecDepth 100000 in
set_option maxHeartbeats 2000000 in
/-- Decode, of a code's word. -/
theorem decode_clean (F : Gf.Fd) (hF : Gf.Ok F) (h12 : F.m ≤ 12) (gd g n : Nat) (v : Value) (xs : List Nat) (w : World) (hd : Blk w gd 67 #[.pointer (some ⟨g, 0, none⟩)]) (hf : FieldAt w g F)
    (hv : RdT w 3 v (nv xs)) (hx : ∀ x ∈ xs, x < F.s) (hxn : 0 < xs.length) (hn : n + F.b ≤ F.s) (hz : ∀ i, i < n → Gf.ev F (Gf.ex F (i + F.b)) xs = 0) :
    Calls Try.prog 26 #[.pointer (some ⟨gd, 0, none⟩), v, .int .i64 n] w fun e w' => e = .returned .nilIface ∧ Below w.heap.size w w' := by
  have hs12 := s_le F h12
  have hxne : xs ≠ [] := by rintro rfl; simp at hxn
  have d0 : w.cell? ⟨gd, 0, none⟩ = some (.pointer (some ⟨g, 0, none⟩)) := by rw [hd.cell]; rfl
  have HF := Lib.hid hf; clear hf
  have HV := Lib.hid hv; clear hv
  have htl : ∀ x ∈ tidy xs, x < F.s := Gf.tidy_lt hx
  have htn : 0 < (tidy xs).length := by
    rcases hq : tidy xs with _ | ⟨x, t⟩
    · exact absurd hq (tidy_ne _ hxne)
    · simp
  have htz : ∀ i, i < n → Gf.ev F (Gf.ex F (i + F.b)) (tidy xs) = 0 := fun i hi => by rw [Gf.ev_tidy F _ xs hxne]; exact hz i hi
  have HT := Lib.hid htl; clear htl hx
  have HZ := Lib.hid htz; clear htz hz
  have hmk := fun W => mk_ints n W (by omega)
  go_enter Try.func26, Try.ntmps26
  go_wp2_with fail
  refine (newPoly_any g v xs _ HV.out hxne).mono ?_
  rintro e w1 ⟨q, rfl, hq, hb1⟩
  have HQ := Lib.hid hq; clear hq
  have HB1 := Lib.hid hb1; clear hb1
  go_wp2_with fail
  clear hmk
  have HS0 := Lib.hid (Blk.fresh w1 3 (nv (List.replicate n 0)).toArray)
  go_loopw [10, 11] (fun bv iv wr => ∃ (i : Nat), i ≤ n ∧ bv = .bool true ∧ iv = .int .i64 i ∧ Hid (Blk wr w1.heap.size 3 (nv (List.replicate n 0)).toArray) ∧ Hid (Below w1.heap.size w1 wr)) (fun _ iv _ => n - (intOf iv).toNat)
  case atStart => exact ⟨0, Nat.zero_le _, rfl, rfl, HS0, Lib.hid (bal (brf w1) _)⟩
  case round =>
    clear HS0
    obtain ⟨i, hi, rfl, rfl, HS, HW⟩ := hrel
    by_cases hlt : i < n
    · have dr : wr.cell? ⟨gd, 0, none⟩ = some (.pointer (some ⟨g, 0, none⟩)) := cell_up (cell_up d0 HB1.out) HW.out
      have HFr := Lib.hid ((HF.out.up HB1.out).up HW.out)
      have HQr := Lib.hid (HQ.out.up HW.out)
      have hzi := HZ.out i hlt
      have HZI := Lib.hid hzi; clear hzi
      obtain ⟨s1, _, s3, s4⟩ := sum_ix i F.b F.s (by omega) (by omega)
      have s5 : (i : Int) + (F.b : Int) = ((i + F.b : Nat) : Int) := by omega
      have HS5 := Lib.hid s5; clear s5
      go_wp2_with fail
      refine Can.wp_region_can (fun w' => w'.cell? ⟨gd, 0, none⟩ = some (.pointer (some ⟨g, 0, none⟩)) ∧ Below wr.heap.size wr w') 999 [0, 1, 2, 3, 4, 5, 6, 7, 8, 9, 10, 11, 12, 13, 14] (by kernel_rfl) (by kernel_rfl) (fun _ _ d _ _ h => by cases d <;> exact h) ⟨dr, bdr (brf _)⟩ (fun hHeld => ?_)
      repeat (refine Can.can_pure (v := ?_) rfl rfl (Or.inl ⟨by rfl, ?_⟩) ?_; rotate_left; (focus ((intro w hSw); (try dsimp only at hSw); go_simp; (try with_reducible rfl))); (try simp only [Act.put, List.getElem_toArray, List.getElem_cons_succ, List.getElem_cons_zero, List.setIfInBounds_toArray, List.set_cons_zero, List.set_cons_succ]))
      refine Can.can_eff rfl rfl (by rfl) (fun K hK => ?_)
      go_simp
      refine (getBase_any g F _ (HFr.out.up hHeld.2)).mono ?_
      rintro e w2 ⟨rfl, rfl⟩
      refine hK.out _ _ hHeld (fun hHeld1 => ?_)
      clear hK K
      (try simp only [Act.put, List.getElem_toArray, List.getElem_cons_succ, List.getElem_cons_zero, List.setIfInBounds_toArray, List.set_cons_zero, List.set_cons_succ])
      repeat (refine Can.can_pure (v := ?_) rfl rfl (Or.inl ⟨by rfl, ?_⟩) ?_; rotate_left; (focus ((intro w hSw); (try dsimp only at hSw); go_simp; (try with_reducible rfl))); (try simp only [Act.put, List.getElem_toArray, List.getElem_cons_succ, List.getElem_cons_zero, List.setIfInBounds_toArray, List.set_cons_zero, List.set_cons_succ]))
      rw [HS5.out]
      refine Can.can_eff rfl rfl (by rfl) (fun K hK => ?_)
      go_simp
      refine (exp_any g F h12 (i + F.b) (by omega) _ (HFr.out.up hHeld1.2)).mono ?_
      rintro e w2 ⟨rfl, rfl⟩
      refine hK.out _ _ hHeld1 (fun hHeld2 => ?_)
      clear hK K
      (try simp only [Act.put, List.getElem_toArray, List.getElem_cons_succ, List.getElem_cons_zero, List.setIfInBounds_toArray, List.set_cons_zero, List.set_cons_succ])
      repeat (refine Can.can_pure (v := ?_) rfl rfl (Or.inl ⟨by rfl, ?_⟩) ?_; rotate_left; (focus ((intro w hSw); (try dsimp only at hSw); go_simp; (try with_reducible rfl))); (try simp only [Act.put, List.getElem_toArray, List.getElem_cons_succ, List.getElem_cons_zero, List.setIfInBounds_toArray, List.set_cons_zero, List.set_cons_succ]))
      refine Can.can_eff rfl rfl (by rfl) (fun K hK => ?_)
      go_simp
      refine (evaluate_zero F hF h12 g q (Gf.ex F (i + F.b)) (tidy xs) _ (HFr.out.up hHeld2.2) (HQr.out.up hHeld2.2) HT.out (Gf.ex_lt hF _) htn HZI.out).mono ?_
      rintro e w2 ⟨rfl, hb2⟩
      refine hK.out _ _ ⟨cell_up hHeld2.1 hb2, bup hHeld2.2 hb2⟩ (fun hHeld3 => ?_)
      clear hK K
      (try simp only [Act.put, List.getElem_toArray, List.getElem_cons_succ, List.getElem_cons_zero, List.setIfInBounds_toArray, List.set_cons_zero, List.set_cons_succ])
      repeat (refine Can.can_pure (v := ?_) rfl rfl (Or.inl ⟨by rfl, ?_⟩) ?_; rotate_left; (focus ((intro w hSw); (try dsimp only at hSw); go_simp; (try with_reducible rfl))); (try simp only [Act.put, List.getElem_toArray, List.getElem_cons_succ, List.getElem_cons_zero, List.setIfInBounds_toArray, List.set_cons_zero, List.set_cons_succ]))
      refine Can.can_done ?_
      have HW2 := Lib.hid (bup HW.out hHeld3.2)
      have HS2 := Lib.hid (HS.out.up hHeld3.2)
      clear hHeld hHeld1 hHeld2 hHeld3 hb2 s1 s3 s4 dr
      have i1 : ((n : Int) - 1 - (i : Int)).toNat = n - 1 - i := by omega
      have i2 : (0 : Int) ≤ (n : Int) - 1 - (i : Int) := by omega
      have i3 : (n : Int) - 1 - (i : Int) < (n : Int) := by omega
      have cO : w2.cell? ⟨w1.heap.size, n - 1 - i, none⟩ = some (.int .i64 0) := by
        rw [HS2.out.cell, nv_cell _ _ (by rw [List.length_replicate]; omega), List.getElem_replicate]; rfl
      have fO : w2.frozen? ⟨w1.heap.size, n - 1 - i, none⟩ = false := HS2.out.frozen _
      have HS3 : Hid (Blk (w2.setCell ⟨w1.heap.size, n - 1 - i, none⟩ (.int .i64 0)) w1.heap.size 3 (nv (List.replicate n 0)).toArray) := Lib.hid (by
        have := HS2.out.put (n - 1 - i) (.int .i64 ((0 : Nat) : Int))
        rw [nv_set, rep_set] at this
        exact this)
      have HW3 := Lib.hid (HW2.out.setCell (p := ⟨w1.heap.size, n - 1 - i, none⟩) (Nat.le_refl _) (.int .i64 0))
      clear HS2 HW2
      go_wp2
      go_roundw
      case rel => exact ⟨i + 1, by omega, rfl, by go_num, HS3, HW3⟩
      case measure => simp [intOf]; omega
    · go_wp2
      go_ret
      exact ⟨rfl, bup HB1.out HW.out⟩

end Go.Proofs.Ytibdeekgcbmofaa
