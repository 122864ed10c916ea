/-
  WALKS: the placer of the reference: put, utah, corner.
-/
import Derived.Test.YtknipefcihkofaaDs1
import Derived.Test.YtknipefcihkofaaDp4
namespace Go.Proofs.Ytknipefcihkofaa
open Go.RowKit

theorem w64' (x : Int) (h0 : -1000000 ≤ x) (h1 : x ≤ 1000000) : IntKind.i64.wrap x = x := by rw [IntKind.wrap_i64]; omega
theorem rowS_len (gr : Nat → Nat) (rows cols : Nat) : (rowS gr rows cols).length = rows := by simp [rowS]
theorem SpAt.row_ {w : World} {q rows cols word base : Nat} {v : Value} {gr : Nat → Nat} {M : Mod} (h : SpAt w q rows cols word v base gr M) (h0 : 0 < rows) : ∃ b o cap, v = .slice (some ⟨b, o, none⟩) rows cap ∧ rows ≤ cap ∧ cap ≤ maxLen ∧ ∀ w', SpAt w' q rows cols word v base gr M → ∀ r, r < rows → w'.cell? ⟨b, o + r, none⟩ = some (.slice (some ⟨gr r, 0, none⟩) cols cols) := by
  obtain ⟨A, cap, hv, h1, h2, h3⟩ := h.outer
  rw [rowS_len] at *
  obtain ⟨b, o, cs, fr, rfl, hh, hc⟩ := h3 h0
  subst hv
  refine ⟨b, o, cap, rfl, h1, h2, fun w' h' r hr => ?_⟩
  obtain ⟨A', cap', hv', _, _, h3'⟩ := h'.outer
  rw [rowS_len] at *
  obtain ⟨b', o', cs', fr', rfl, hh', hc'⟩ := h3' h0
  injection hv' with e1 e2 e3
  injection e1 with e1
  injection e1 with e1 e4 _
  subst e1 e4
  rw [World.cell?, hh']; simpa using hc' r _ (rowS_at gr rows cols r hr)
set_option maxRecDepth 100000 in
set_option maxHeartbeats 2000000 in
theorem sput_any (q rows cols word : Nat) (v : Value) (base : Nat) (gr : Nat → Nat) (M : Mod) (row col bit : Int) (b i : Nat) (w : World) (h : SpAt w q rows cols word v base gr M) (hp : placeAt rows cols row col = some i) (hbit : bit = (b : Int)) (hb : b < 8) (hq : q ≤ base) (hw : word ≤ 100000) (hR : rows ≤ 200) (hC : cols ≤ 200)
    (hrow : -8 ≤ row ∧ row ≤ 400) (hcol : -8 ≤ col ∧ col ≤ 400) :
    Calls Try.prog 38 #[.pointer (some ⟨q, 0, none⟩), .int .i64 row, .int .i64 col, .int .i64 bit] w fun e w' => e = .returned (.tuple #[]) ∧ SpAt w' q rows cols word v base gr (modSet M i (8 * word + b)) ∧ Kept q w w' ∧ ∀ e' v' xs, e' ≠ 3 → RdT w e' v' xs → RdT w' e' v' xs := by
  obtain ⟨r, c, hr, hc, rfl, er, ec⟩ := placeAt_some hp
  obtain ⟨vb, vo, vc, rfl, hv1, hv2, hvr⟩ := h.row_ (by omega)
  unfold maxLen at hv2
  have k0 : w.cell? ⟨q, 0, none⟩ = some (.int .i64 rows) := by rw [h.head.cell]; rfl
  have k1 : w.cell? ⟨q, 1, none⟩ = some (.int .i64 cols) := by rw [h.head.cell]; rfl
  have k2 : w.cell? ⟨q, 2, none⟩ = some (.int .i64 word) := by rw [h.head.cell]; rfl
  have k3 : w.cell? ⟨q, 3, none⟩ = some (.slice (some ⟨vb, vo, none⟩) rows vc) := by rw [h.head.cell]; rfl
  have k4 := hvr w h r hr
  have k5 : w.cell? ⟨gr r, c, none⟩ = some (.int .i64 (M (r * cols + c))) := by rw [(h.inner r hr).cell]; exact rowI_at M r cols c hc
  have k6 : w.frozen? ⟨gr r, c, none⟩ = false := (h.inner r hr).frozen c
  have hglo := h.lo r hr
  have hF : ∀ W, Below (w.setCell ⟨gr r, c, none⟩ (.int .i64 ((8 * word + b : Nat) : Int))).heap.size (w.setCell ⟨gr r, c, none⟩ (.int .i64 ((8 * word + b : Nat) : Int))) W → W.heap.size = w.heap.size → SpAt W q rows cols word (.slice (some ⟨vb, vo, none⟩) rows vc) base gr (modSet M (r * cols + c) (8 * word + b)) ∧ Kept q w W ∧ ∀ e' v' xs, e' ≠ 3 → RdT w e' v' xs → RdT W e' v' xs := fun W hb1 hs1 =>
    ⟨(h.set r c _ hr hc).up hb1, ⟨hs1, fun B hB => ((Below.refl B w).setCell (p := ⟨gr r, c, none⟩) (by show B ≤ gr r; omega) _).trans (hb1.mono (by have := h.head.lt; simp; omega))⟩, fun e' v' xs he hr' => (hr'.far (p := ⟨gr r, c, none⟩) (h.inner r hr) (fun h9 => he h9.symm) _).up hb1⟩
  generalize M (r * cols + c) = x0 at *
  obtain ⟨X, hX⟩ : ∃ X, X = 8 * word + b := ⟨_, rfl⟩
  rw [← hX] at hF ⊢
  obtain ⟨W8, hW8⟩ : ∃ X, X = 8 * word := ⟨_, rfl⟩
  have x1 : 8 * (word : Int) = (W8 : Int) := by omega
  have x2 : (W8 : Int) + bit = (X : Int) := by omega
  have x3 := w64' (W8 : Int) (by omega) (by omega)
  have x4 := w64' (X : Int) (by omega) (by omega)
  obtain ⟨G, hG⟩ : ∃ G, G = gr r := ⟨_, rfl⟩
  rw [← hG] at k4 k5 k6 hF
  have HF := Lib.hid hF
  clear h hp hvr hF hbit hX hW8 hG hglo hq
  have m1 : Int.tmod ((rows : Int) + 4) 8 = (((rows + 4) % 8 : Nat) : Int) := by rw [Int.tmod_eq_emod_of_nonneg (by omega)]; omega
  have m2 : Int.tmod ((cols : Int) + 4) 8 = (((cols + 4) % 8 : Nat) : Int) := by rw [Int.tmod_eq_emod_of_nonneg (by omega)]; omega
  unfold rowB at er
  unfold colB at ec
  unfold colA rowA at er
  unfold colA at ec
  obtain ⟨q1, hq1⟩ : ∃ q, q = (rows + 4) % 8 := ⟨_, rfl⟩
  obtain ⟨q2, hq2⟩ : ∃ q, q = (cols + 4) % 8 := ⟨_, rfl⟩
  rw [← hq1] at m1 er ec
  rw [← hq2] at m2 er
  have b3 : q1 < 8 := by omega
  have b4 : q2 < 8 := by omega
  clear hq1 hq2
  have g1 := hrow.1; have g2 := hrow.2; have g3 := hcol.1; have g4 := hcol.2
  clear hrow hcol
  have n1 := w64' ((rows : Int) + 4) (by omega) (by omega)
  have n2 := w64' ((cols : Int) + 4) (by omega) (by omega)
  have n3 := w64' (q1 : Int) (by omega) (by omega)
  have n4 := w64' (q2 : Int) (by omega) (by omega)
  by_cases h1 : row < 0
  · simp only [if_pos h1] at er ec
    obtain ⟨ca, hca⟩ : ∃ x : Int, x = col + 4 := ⟨_, rfl⟩
    obtain ⟨cc, hcc⟩ : ∃ x : Int, x = ca - q1 := ⟨_, rfl⟩
    obtain ⟨rr, hrr⟩ : ∃ x : Int, x = row + rows := ⟨_, rfl⟩
    have n5 := w64' ca (by omega) (by omega)
    have n6 := w64' cc (by omega) (by omega)
    have n7 := w64' rr (by omega) (by omega)
    have e9 : col + (4 - (q1 : Int)) = cc := by omega
    rw [e9, ← hrr] at er
    rw [e9] at ec
    clear e9
    have y1 := hca.symm
    have y2 := hcc.symm
    have y3 := hrr.symm
    clear hca hcc hrr
    by_cases h2 : cc < 0
    · simp only [if_pos h2] at er ec
      obtain ⟨ra, hra⟩ : ∃ x : Int, x = rr + 4 := ⟨_, rfl⟩
      have n8 := w64' ra (by omega) (by omega)
      have n9 := w64' (r : Int) (by omega) (by omega)
      have n0 := w64' (c : Int) (by omega) (by omega)
      have y4 := hra.symm
      have y5 : ra - (q2 : Int) = (r : Int) := by omega
      have y6 := ec.symm
      clear er ec hra
      go_enter Try.func38, Try.ntmps38
      go_wp2_with fail
      refine Can.wp_region_can (fun w' => w'.cell? ⟨q, 0, none⟩ = some (.int .i64 rows)) 999 [0, 1, 2, 3, 4, 5, 6, 7, 8, 9, 10, 11, 12, 13, 14, 15, 16] (by kernel_rfl) (by kernel_rfl) (fun _ _ d _ _ h => by cases d <;> exact h) (cell_up k0 (bdr (brf _))) (fun hHeld => ?_)
      repeat (refine Can.can_pure (v := ?_) rfl rfl (Or.inl ⟨by rfl, ?_⟩) ?_; rotate_left; (focus ((intro w hSw); (try dsimp only at hSw); go_simp; (try with_reducible rfl))); (try simp only [Act.put, List.getElem_toArray, List.getElem_cons_succ, List.getElem_cons_zero, List.setIfInBounds_toArray, List.set_cons_zero, List.set_cons_succ]))
      refine Can.can_done ?_
      clear hHeld
      go_wp2_with fail
      refine Can.wp_region_can (fun w' => w'.cell? ⟨q, 1, none⟩ = some (.int .i64 cols)) 999 [0, 1, 2, 3, 4, 5, 6, 7, 8, 9, 10, 11, 12, 13, 14, 15, 16] (by kernel_rfl) (by kernel_rfl) (fun _ _ d _ _ h => by cases d <;> exact h) (cell_up k1 (bdr (bdr (brf _)))) (fun hHeld => ?_)
      repeat (refine Can.can_pure (v := ?_) rfl rfl (Or.inl ⟨by rfl, ?_⟩) ?_; rotate_left; (focus ((intro w hSw); (try dsimp only at hSw); go_simp; (try with_reducible rfl))); (try simp only [Act.put, List.getElem_toArray, List.getElem_cons_succ, List.getElem_cons_zero, List.setIfInBounds_toArray, List.set_cons_zero, List.set_cons_succ]))
      refine Can.can_done ?_
      clear hHeld
      go_wp2_with fail
      refine Can.wp_region_can (fun w' => w'.cell? ⟨q, 3, none⟩ = some (.slice (some ⟨vb, vo, none⟩) rows vc) ∧ w'.cell? ⟨vb, vo + r, none⟩ = some (.slice (some ⟨G, 0, none⟩) cols cols) ∧ w'.cell? ⟨q, 2, none⟩ = some (.int .i64 word) ∧ w'.cell? ⟨G, c, none⟩ = some (.int .i64 x0) ∧ w'.frozen? ⟨G, c, none⟩ = false) 16 [0, 1, 2, 3, 4, 5, 6, 7, 8, 9, 10, 11, 12, 13, 14, 15, 16] (by kernel_rfl) (by kernel_rfl) (fun _ _ d _ _ h => by cases d <;> exact h) ⟨cell_up k3 (bdr (bdr (bdr (brf _)))), cell_up k4 (bdr (bdr (bdr (brf _)))), cell_up k2 (bdr (bdr (bdr (brf _)))), cell_up k5 (bdr (bdr (bdr (brf _)))), k6⟩ (fun hHeld => ?_)
      repeat (refine Can.can_pure (v := ?_) rfl rfl (Or.inl ⟨by rfl, ?_⟩) ?_; rotate_left; (focus ((intro w hSw); (try dsimp only at hSw); go_simp; (try with_reducible rfl))); (try simp only [Act.put, List.getElem_toArray, List.getElem_cons_succ, List.getElem_cons_zero, List.setIfInBounds_toArray, List.set_cons_zero, List.set_cons_succ]))
      have f1 := hHeld.2.2.2.2
      have c3 := hHeld.2.2.2.1
      refine Can.can_tail rfl rfl (by rfl) (fun K hK => ?_)
      go_simp
      refine hK.out _ _ ?_
      clear hK K
      clear hHeld f1 c3
      go_wp2
      refine bodyPost_end (results_none rfl _ _ _) rfl ?_
      exact ⟨rfl, HF.out _ (bdr (bdr (bdr (brf _)))) (by simp)⟩
    · simp only [if_neg h2] at er ec
      subst er ec
      go_enter Try.func38, Try.ntmps38
      go_wp2_with fail
      refine Can.wp_region_can (fun w' => w'.cell? ⟨q, 0, none⟩ = some (.int .i64 rows)) 999 [0, 1, 2, 3, 4, 5, 6, 7, 8, 9, 10, 11, 12, 13, 14, 15, 16] (by kernel_rfl) (by kernel_rfl) (fun _ _ d _ _ h => by cases d <;> exact h) (cell_up k0 (bdr (brf _))) (fun hHeld => ?_)
      repeat (refine Can.can_pure (v := ?_) rfl rfl (Or.inl ⟨by rfl, ?_⟩) ?_; rotate_left; (focus ((intro w hSw); (try dsimp only at hSw); go_simp; (try with_reducible rfl))); (try simp only [Act.put, List.getElem_toArray, List.getElem_cons_succ, List.getElem_cons_zero, List.setIfInBounds_toArray, List.set_cons_zero, List.set_cons_succ]))
      refine Can.can_done ?_
      clear hHeld
      go_wp2_with fail
      refine Can.wp_region_can (fun w' => w'.cell? ⟨q, 3, none⟩ = some (.slice (some ⟨vb, vo, none⟩) rows vc) ∧ w'.cell? ⟨vb, vo + r, none⟩ = some (.slice (some ⟨G, 0, none⟩) cols cols) ∧ w'.cell? ⟨q, 2, none⟩ = some (.int .i64 word) ∧ w'.cell? ⟨G, c, none⟩ = some (.int .i64 x0) ∧ w'.frozen? ⟨G, c, none⟩ = false) 16 [0, 1, 2, 3, 4, 5, 6, 7, 8, 9, 10, 11, 12, 13, 14, 15, 16] (by kernel_rfl) (by kernel_rfl) (fun _ _ d _ _ h => by cases d <;> exact h) ⟨cell_up k3 (bdr (bdr (brf _))), cell_up k4 (bdr (bdr (brf _))), cell_up k2 (bdr (bdr (brf _))), cell_up k5 (bdr (bdr (brf _))), k6⟩ (fun hHeld => ?_)
      repeat (refine Can.can_pure (v := ?_) rfl rfl (Or.inl ⟨by rfl, ?_⟩) ?_; rotate_left; (focus ((intro w hSw); (try dsimp only at hSw); go_simp; (try with_reducible rfl))); (try simp only [Act.put, List.getElem_toArray, List.getElem_cons_succ, List.getElem_cons_zero, List.setIfInBounds_toArray, List.set_cons_zero, List.set_cons_succ]))
      have f1 := hHeld.2.2.2.2
      have c3 := hHeld.2.2.2.1
      refine Can.can_tail rfl rfl (by rfl) (fun K hK => ?_)
      go_simp
      refine hK.out _ _ ?_
      clear hK K
      clear hHeld f1 c3
      go_wp2
      refine bodyPost_end (results_none rfl _ _ _) rfl ?_
      exact ⟨rfl, HF.out _ (bdr (bdr (brf _))) (by simp)⟩
  · simp only [if_neg h1] at er ec
    by_cases h2 : col < 0
    · simp only [if_pos h2] at er ec
      obtain ⟨ra, hra⟩ : ∃ x : Int, x = row + 4 := ⟨_, rfl⟩
      have n8 := w64' ra (by omega) (by omega)
      have n9 := w64' (r : Int) (by omega) (by omega)
      have n0 := w64' (c : Int) (by omega) (by omega)
      have y4 := hra.symm
      have y5 : ra - (q2 : Int) = (r : Int) := by omega
      have y6 := ec.symm
      clear er ec hra
      go_enter Try.func38, Try.ntmps38
      go_wp2_with fail
      refine Can.wp_region_can (fun w' => w'.cell? ⟨q, 1, none⟩ = some (.int .i64 cols)) 999 [0, 1, 2, 3, 4, 5, 6, 7, 8, 9, 10, 11, 12, 13, 14, 15, 16] (by kernel_rfl) (by kernel_rfl) (fun _ _ d _ _ h => by cases d <;> exact h) (cell_up k1 (bdr (brf _))) (fun hHeld => ?_)
      repeat (refine Can.can_pure (v := ?_) rfl rfl (Or.inl ⟨by rfl, ?_⟩) ?_; rotate_left; (focus ((intro w hSw); (try dsimp only at hSw); go_simp; (try with_reducible rfl))); (try simp only [Act.put, List.getElem_toArray, List.getElem_cons_succ, List.getElem_cons_zero, List.setIfInBounds_toArray, List.set_cons_zero, List.set_cons_succ]))
      refine Can.can_done ?_
      clear hHeld
      go_wp2_with fail
      refine Can.wp_region_can (fun w' => w'.cell? ⟨q, 3, none⟩ = some (.slice (some ⟨vb, vo, none⟩) rows vc) ∧ w'.cell? ⟨vb, vo + r, none⟩ = some (.slice (some ⟨G, 0, none⟩) cols cols) ∧ w'.cell? ⟨q, 2, none⟩ = some (.int .i64 word) ∧ w'.cell? ⟨G, c, none⟩ = some (.int .i64 x0) ∧ w'.frozen? ⟨G, c, none⟩ = false) 16 [0, 1, 2, 3, 4, 5, 6, 7, 8, 9, 10, 11, 12, 13, 14, 15, 16] (by kernel_rfl) (by kernel_rfl) (fun _ _ d _ _ h => by cases d <;> exact h) ⟨cell_up k3 (bdr (bdr (brf _))), cell_up k4 (bdr (bdr (brf _))), cell_up k2 (bdr (bdr (brf _))), cell_up k5 (bdr (bdr (brf _))), k6⟩ (fun hHeld => ?_)
      repeat (refine Can.can_pure (v := ?_) rfl rfl (Or.inl ⟨by rfl, ?_⟩) ?_; rotate_left; (focus ((intro w hSw); (try dsimp only at hSw); go_simp; (try with_reducible rfl))); (try simp only [Act.put, List.getElem_toArray, List.getElem_cons_succ, List.getElem_cons_zero, List.setIfInBounds_toArray, List.set_cons_zero, List.set_cons_succ]))
      have f1 := hHeld.2.2.2.2
      have c3 := hHeld.2.2.2.1
      refine Can.can_tail rfl rfl (by rfl) (fun K hK => ?_)
      go_simp
      refine hK.out _ _ ?_
      clear hK K
      clear hHeld f1 c3
      go_wp2
      refine bodyPost_end (results_none rfl _ _ _) rfl ?_
      exact ⟨rfl, HF.out _ (bdr (bdr (brf _))) (by simp)⟩
    · simp only [if_neg h2] at er ec
      subst er ec
      go_enter Try.func38, Try.ntmps38
      go_wp2_with fail
      refine Can.wp_region_can (fun w' => w'.cell? ⟨q, 3, none⟩ = some (.slice (some ⟨vb, vo, none⟩) rows vc) ∧ w'.cell? ⟨vb, vo + r, none⟩ = some (.slice (some ⟨G, 0, none⟩) cols cols) ∧ w'.cell? ⟨q, 2, none⟩ = some (.int .i64 word) ∧ w'.cell? ⟨G, c, none⟩ = some (.int .i64 x0) ∧ w'.frozen? ⟨G, c, none⟩ = false) 16 [0, 1, 2, 3, 4, 5, 6, 7, 8, 9, 10, 11, 12, 13, 14, 15, 16] (by kernel_rfl) (by kernel_rfl) (fun _ _ d _ _ h => by cases d <;> exact h) ⟨cell_up k3 (bdr (brf _)), cell_up k4 (bdr (brf _)), cell_up k2 (bdr (brf _)), cell_up k5 (bdr (brf _)), k6⟩ (fun hHeld => ?_)
      repeat (refine Can.can_pure (v := ?_) rfl rfl (Or.inl ⟨by rfl, ?_⟩) ?_; rotate_left; (focus ((intro w hSw); (try dsimp only at hSw); go_simp; (try with_reducible rfl))); (try simp only [Act.put, List.getElem_toArray, List.getElem_cons_succ, List.getElem_cons_zero, List.setIfInBounds_toArray, List.set_cons_zero, List.set_cons_succ]))
      have f1 := hHeld.2.2.2.2
      have c3 := hHeld.2.2.2.1
      refine Can.can_tail rfl rfl (by rfl) (fun K hK => ?_)
      go_simp
      refine hK.out _ _ ?_
      clear hK K
      clear hHeld f1 c3
      go_wp2
      refine bodyPost_end (results_none rfl _ _ _) rfl ?_
      exact ⟨rfl, HF.out _ (bdr (brf _)) (by simp)⟩
end Go.Proofs.Ytknipefcihkofaa
