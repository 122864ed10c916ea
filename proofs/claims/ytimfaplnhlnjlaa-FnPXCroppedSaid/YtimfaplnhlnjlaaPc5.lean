/-
  THE LAW of parts of parts, walked.
-/
import Derived.Test.YtimfaplnhlnjlaaPc4
namespace Go.Proofs.Ytimfaplnhlnjlaa
open Go.RowKit Go.WideShapes Go.ChangeShapes

/-- Place q, taken within m: the rest, and its number. -/
theorem mod_int (q m : Nat) : (q : Int) % (m : Int) = ((q % m : Nat) : Int) := by simp
def arr8 (p : List Nat) : Value := .agg (b8 p).toArray
set_option maxRecDepth 100000 in
set_option maxHeartbeats 4000000 in
theorem cropped_walk (v : Value) (G : List Nat) (n : Nat) (p0 p1 p2 p3 p4 p5 p6 p7 : Nat) (w : World) (hv : Rd w w.heap.size v (b8 G)) (hG : ∀ x ∈ G, x < 256) (hn : n < 256) (hp : (((p0 < 256 ∧ p1 < 256) ∧ p2 < 256) ∧ p3 < 256) ∧ (((p4 < 256 ∧ p5 < 256) ∧ p6 < 256) ∧ p7 < 256)) :
    Calls Try.prog 4 #[v, .int .u8 n, .agg #[.int .u8 p0, .int .u8 p1, .int .u8 p2, .int .u8 p3, .int .u8 p4, .int .u8 p5, .int .u8 p6, .int .u8 p7]] w fun e w' => e = .returned (.bool true) ∧ Below w.heap.size w w' := by
  obtain ⟨A, cap, rfl, h1, h2, h3⟩ := id hv
  have HV := Lib.hid hv; clear hv h3
  rw [b8_len] at *
  unfold maxLen at h2
  have HG := Lib.hid hG; clear hG
  obtain ⟨wb, hwb⟩ : ∃ wb, wb = w.alloc (Obj.cells #[Value.int .u8 p0, .int .u8 p1, .int .u8 p2, .int .u8 p3, .int .u8 p4, .int .u8 p5, .int .u8 p6, .int .u8 p7] 31) := ⟨_, rfl⟩
  have hbb : Blk wb w.heap.size 31 #[Value.int .u8 p0, .int .u8 p1, .int .u8 p2, .int .u8 p3, .int .u8 p4, .int .u8 p5, .int .u8 p6, .int .u8 p7] := by rw [hwb]; exact Blk.fresh w _ _
  have hb0 : Below w.heap.size w wb := by rw [hwb]; exact bal (brf w) _
  have HBB := Lib.hid hbb; clear hbb
  have HB0 := Lib.hid hb0
  have HV0 := Lib.hid (HV.out.up hb0); clear hb0
  have HW := Lib.hid hwb.symm; clear hwb
  by_cases hbig : (2147483647 : Int) < (G.length : Int)
  · go_enter Try.func4, Try.ntmps4
    go_wp2
    rw [HW.out]
    go_ret
    exact ⟨rfl, HB0.out⟩
  · have hGl : G.length ≤ 2147483647 := by omega
    go_enter Try.func4, Try.ntmps4
    go_wp2_with fail
    rw [HW.out]
    refine (grays_any _ G n wb HV0.out hGl hn).mono ?_
    rintro e w1 ⟨v1, rfl, hv1, hb1⟩
    have hW0 : 1 ≤ pxW n ∧ pxW n ≤ 60 := by unfold pxW; omega
    have hH0 : 1 ≤ pxH n G.length ∧ pxH n G.length ≤ 60 := by unfold pxH; omega
    generalize pxW n = W at *
    generalize pxH n G.length = H at *
    have hLl := grayL_len G (W * H)
    have hLt := grayL_lt G (W * H) HG.out
    generalize grayL G (W * H) = L at *
    have HLt := Lib.hid hLt
    have HLl := Lib.hid hLl
    have hs : L.length ≤ 3600 := by rw [hLl]; have := Nat.mul_le_mul hW0.2 hH0.2; omega
    have HV1 := Lib.hid hv1
    have HB1 := Lib.hid (HB0.out.trans (hb1.mono HB0.out.size))
    have hbx := HBB.out.up hb1
    have c0 : w1.cell? ⟨w.heap.size, 0, none⟩ = some (.int .u8 p0) := by rw [hbx.cell]; rfl
    have c1 : w1.cell? ⟨w.heap.size, 1, none⟩ = some (.int .u8 p1) := by rw [hbx.cell]; rfl
    have c2 : w1.cell? ⟨w.heap.size, 2, none⟩ = some (.int .u8 p2) := by rw [hbx.cell]; rfl
    have c3 : w1.cell? ⟨w.heap.size, 3, none⟩ = some (.int .u8 p3) := by rw [hbx.cell]; rfl
    have c4 : w1.cell? ⟨w.heap.size, 4, none⟩ = some (.int .u8 p4) := by rw [hbx.cell]; rfl
    have c5 : w1.cell? ⟨w.heap.size, 5, none⟩ = some (.int .u8 p5) := by rw [hbx.cell]; rfl
    have c6 : w1.cell? ⟨w.heap.size, 6, none⟩ = some (.int .u8 p6) := by rw [hbx.cell]; rfl
    have c7 : w1.cell? ⟨w.heap.size, 7, none⟩ = some (.int .u8 p7) := by rw [hbx.cell]; rfl
    clear hbx hb1 hv1 hLl hLt HV HV0 HB0 HBB HW HG hbig
    obtain ⟨x, hx⟩ : ∃ x, x = p0 % W := ⟨_, rfl⟩
    obtain ⟨y, hy⟩ : ∃ y, y = p1 % H := ⟨_, rfl⟩
    have hxl : x < W := by rw [hx]; exact Nat.mod_lt _ (by omega)
    have hyl : y < H := by rw [hy]; exact Nat.mod_lt _ (by omega)
    have m0 : (p0 : Int) % (W : Int) = (x : Int) := by rw [hx]; simp
    have m1 : (p1 : Int) % (H : Int) = (y : Int) := by rw [hy]; simp
    have n0 : ((W : Int) == 0) = false := by simp; omega
    have n1 : ((H : Int) == 0) = false := by simp; omega
    clear hx hy
    obtain ⟨D1, hD1⟩ : ∃ D1, D1 = W - x := ⟨_, rfl⟩
    obtain ⟨D2, hD2⟩ : ∃ D2, D2 = H - y := ⟨_, rfl⟩
    have d1 : (W : Int) - (x : Int) = (D1 : Int) := by omega
    have d2 : (H : Int) - (y : Int) = (D2 : Int) := by omega
    have n2 : ((D1 : Int) == 0) = false := by simp; omega
    have n3 : ((D2 : Int) == 0) = false := by simp; omega
    obtain ⟨r2, hr2⟩ : ∃ r, r = p2 % D1 := ⟨_, rfl⟩
    obtain ⟨r3, hr3⟩ : ∃ r, r = p3 % D2 := ⟨_, rfl⟩
    have hr2l : r2 < D1 := by rw [hr2]; exact Nat.mod_lt _ (by omega)
    have hr3l : r3 < D2 := by rw [hr3]; exact Nat.mod_lt _ (by omega)
    have m2 : (p2 : Int) % (D1 : Int) = (r2 : Int) := by rw [hr2]; simp
    have m3 : (p3 : Int) % (D2 : Int) = (r3 : Int) := by rw [hr3]; simp
    obtain ⟨a, ha⟩ : ∃ a, a = 1 + r2 := ⟨_, rfl⟩
    obtain ⟨b, hb⟩ : ∃ b, b = 1 + r3 := ⟨_, rfl⟩
    have k2 : 1 + (r2 : Int) = (a : Int) := by omega
    have k3 : 1 + (r3 : Int) = (b : Int) := by omega
    have ha1 : 1 ≤ a ∧ x + a ≤ W := by omega
    have hb1 : 1 ≤ b ∧ y + b ≤ H := by omega
    have n4 : ((a : Int) == 0) = false := by simp; omega
    have n5 : ((b : Int) == 0) = false := by simp; omega
    clear hr2 hr3 ha hb hD1 hD2
    obtain ⟨i, hi⟩ : ∃ i, i = p4 % a := ⟨_, rfl⟩
    obtain ⟨k, hk⟩ : ∃ k, k = p5 % b := ⟨_, rfl⟩
    have hil : i < a := by rw [hi]; exact Nat.mod_lt _ (by omega)
    have hkl : k < b := by rw [hk]; exact Nat.mod_lt _ (by omega)
    have m4 : (p4 : Int) % (a : Int) = (i : Int) := by rw [hi]; simp
    have m5 : (p5 : Int) % (b : Int) = (k : Int) := by rw [hk]; simp
    clear hi hk
    obtain ⟨D3, hD3⟩ : ∃ D, D = a - i := ⟨_, rfl⟩
    obtain ⟨D4, hD4⟩ : ∃ D, D = b - k := ⟨_, rfl⟩
    have d3 : (a : Int) - (i : Int) = (D3 : Int) := by omega
    have d4 : (b : Int) - (k : Int) = (D4 : Int) := by omega
    have n6 : ((D3 : Int) == 0) = false := by simp; omega
    have n7 : ((D4 : Int) == 0) = false := by simp; omega
    obtain ⟨r6, hr6⟩ : ∃ r, r = p6 % D3 := ⟨_, rfl⟩
    obtain ⟨r7, hr7⟩ : ∃ r, r = p7 % D4 := ⟨_, rfl⟩
    have hr6l : r6 < D3 := by rw [hr6]; exact Nat.mod_lt _ (by omega)
    have hr7l : r7 < D4 := by rw [hr7]; exact Nat.mod_lt _ (by omega)
    have m6 : (p6 : Int) % (D3 : Int) = (r6 : Int) := by rw [hr6]; simp
    have m7 : (p7 : Int) % (D4 : Int) = (r7 : Int) := by rw [hr7]; simp
    obtain ⟨c, hc⟩ : ∃ c, c = 1 + r6 := ⟨_, rfl⟩
    obtain ⟨d, hd⟩ : ∃ d, d = 1 + r7 := ⟨_, rfl⟩
    have k6 : 1 + (r6 : Int) = (c : Int) := by omega
    have k7 : 1 + (r7 : Int) = (d : Int) := by omega
    have hc1 : 1 ≤ c ∧ i + c ≤ a := by omega
    have hd1 : 1 ≤ d ∧ k + d ≤ b := by omega
    clear hr6 hr7 hc hd hD3 hD4
    have tm : ∀ p q : Nat, Int.tmod (p : Int) (q : Int) = ((p % q : Nat) : Int) := fun p q => by rw [Int.tmod_eq_emod_of_nonneg (by omega)]; simp
    have wf : ∀ z : Nat, z < 1000000 → IntKind.i64.wrap (z : Int) = (z : Int) := fun z hz => by rw [IntKind.wrap_i64]; omega
    have t0 : Int.tmod (p0 : Int) (W : Int) = (x : Int) := by rw [tm]; rw [← m0]; simp
    have t1 : Int.tmod (p1 : Int) (H : Int) = (y : Int) := by rw [tm]; rw [← m1]; simp
    have t2 : Int.tmod (p2 : Int) (D1 : Int) = (r2 : Int) := by rw [tm]; rw [← m2]; simp
    have t3 : Int.tmod (p3 : Int) (D2 : Int) = (r3 : Int) := by rw [tm]; rw [← m3]; simp
    have t4 : Int.tmod (p4 : Int) (a : Int) = (i : Int) := by rw [tm]; rw [← m4]; simp
    have t5 : Int.tmod (p5 : Int) (b : Int) = (k : Int) := by rw [tm]; rw [← m5]; simp
    have t6 : Int.tmod (p6 : Int) (D3 : Int) = (r6 : Int) := by rw [tm]; rw [← m6]; simp
    have t7 : Int.tmod (p7 : Int) (D4 : Int) = (r7 : Int) := by rw [tm]; rw [← m7]; simp
    have wx := wf x (by omega); have wy := wf y (by omega); have wi := wf i (by omega); have wk := wf k (by omega)
    have w2 := wf r2 (by omega); have w3 := wf r3 (by omega); have w6 := wf r6 (by omega); have w7 := wf r7 (by omega)
    have wa := wf a (by omega); have wb' := wf b (by omega); have wc := wf c (by omega); have wd := wf d (by omega)
    have wD1 := wf D1 (by omega); have wD2 := wf D2 (by omega); have wD3 := wf D3 (by omega); have wD4 := wf D4 (by omega)
    have q0 := wf p0 (by omega); have q1 := wf p1 (by omega); have q2 := wf p2 (by omega); have q3 := wf p3 (by omega)
    have q4 := wf p4 (by omega); have q5 := wf p5 (by omega); have q6 := wf p6 (by omega); have q7 := wf p7 (by omega)
    have z0 : ¬ W = 0 := by omega
    have z1 : ¬ H = 0 := by omega
    have z2 : ¬ D1 = 0 := by omega
    have z3 : ¬ D2 = 0 := by omega
    have z4 : ¬ a = 0 := by omega
    have z5 : ¬ b = 0 := by omega
    have z6 : ¬ D3 = 0 := by omega
    have z7 : ¬ D4 = 0 := by omega
    clear tm wf m0 m1 m2 m3 m4 m5 m6 m7
    go_wp2_with fail
    refine Can.wp_region_can (fun w' => w'.cell? ⟨w.heap.size, 0, none⟩ = some (.int .u8 p0) ∧ w'.cell? ⟨w.heap.size, 1, none⟩ = some (.int .u8 p1)) 999 [0, 1, 2, 3, 4, 5, 6, 7, 8, 9, 10, 11] (by kernel_rfl) (by kernel_rfl) (fun _ _ d _ _ h => by cases d <;> exact h) ⟨c0, c1⟩ (fun hHeld => ?_)
    repeat (refine Can.can_pure (v := ?_) rfl rfl (Or.inl ⟨by rfl, ?_⟩) ?_; rotate_left; (focus ((intro w hSw); (try dsimp only at hSw); go_simp; (try with_reducible rfl))); (try simp only [Act.put, List.getElem_toArray, List.getElem_cons_succ, List.getElem_cons_zero, List.setIfInBounds_toArray, List.set_cons_zero, List.set_cons_succ]))
    refine Can.can_done ?_
    clear hHeld t0 t1 n0 n1 c0 c1 q0 q1 z0 z1
    go_wp2_with fail
    refine Can.wp_region_can (fun w' => w'.cell? ⟨w.heap.size, 2, none⟩ = some (.int .u8 p2) ∧ w'.cell? ⟨w.heap.size, 3, none⟩ = some (.int .u8 p3)) 999 [0, 1, 2, 3, 4, 5, 6, 7, 8, 9, 10, 11, 12, 13, 14, 15, 16, 17] (by kernel_rfl) (by kernel_rfl) (fun _ _ d _ _ h => by cases d <;> exact h) ⟨c2, c3⟩ (fun hHeld => ?_)
    repeat (refine Can.can_pure (v := ?_) rfl rfl (Or.inl ⟨by rfl, ?_⟩) ?_; rotate_left; (focus ((intro w hSw); (try dsimp only at hSw); go_simp; (try with_reducible rfl))); (try simp only [Act.put, List.getElem_toArray, List.getElem_cons_succ, List.getElem_cons_zero, List.setIfInBounds_toArray, List.set_cons_zero, List.set_cons_succ]))
    refine Can.can_done ?_
    clear hHeld t2 t3 k2 k3 n2 n3 d1 d2 c2 c3 q2 q3 z2 z3 w2 w3 wD1 wD2
    go_wp2_with fail
    refine Can.wp_region_can (fun w' => w'.cell? ⟨w.heap.size, 4, none⟩ = some (.int .u8 p4) ∧ w'.cell? ⟨w.heap.size, 5, none⟩ = some (.int .u8 p5)) 999 [0, 1, 2, 3, 4, 5, 6, 7, 8, 9, 10, 11] (by kernel_rfl) (by kernel_rfl) (fun _ _ d _ _ h => by cases d <;> exact h) ⟨c4, c5⟩ (fun hHeld => ?_)
    repeat (refine Can.can_pure (v := ?_) rfl rfl (Or.inl ⟨by rfl, ?_⟩) ?_; rotate_left; (focus ((intro w hSw); (try dsimp only at hSw); go_simp; (try with_reducible rfl))); (try simp only [Act.put, List.getElem_toArray, List.getElem_cons_succ, List.getElem_cons_zero, List.setIfInBounds_toArray, List.set_cons_zero, List.set_cons_succ]))
    refine Can.can_done ?_
    clear hHeld t4 t5 n4 n5 c4 c5 q4 q5 z4 z5
    go_wp2_with fail
    refine Can.wp_region_can (fun w' => w'.cell? ⟨w.heap.size, 6, none⟩ = some (.int .u8 p6) ∧ w'.cell? ⟨w.heap.size, 7, none⟩ = some (.int .u8 p7)) 999 [0, 1, 2, 3, 4, 5, 6, 7, 8, 9, 10, 11, 12, 13, 14, 15, 16, 17] (by kernel_rfl) (by kernel_rfl) (fun _ _ d _ _ h => by cases d <;> exact h) ⟨c6, c7⟩ (fun hHeld => ?_)
    repeat (refine Can.can_pure (v := ?_) rfl rfl (Or.inl ⟨by rfl, ?_⟩) ?_; rotate_left; (focus ((intro w hSw); (try dsimp only at hSw); go_simp; (try with_reducible rfl))); (try simp only [Act.put, List.getElem_toArray, List.getElem_cons_succ, List.getElem_cons_zero, List.setIfInBounds_toArray, List.set_cons_zero, List.set_cons_succ]))
    refine Can.can_done ?_
    clear hHeld t6 t7 k6 k7 n6 n7 d3 d4 c6 c7 q6 q7 z6 z7 w6 w7 wD3 wD4 wx wy wi wk wa wb' wc wd
    have hbq : Below w1.heap.size w1 w1.drew.drew.drew.drew := bdr (bdr (bdr (bdr (brf w1))))
    generalize w1.drew.drew.drew.drew = w2 at *
    have HV2 := Lib.hid (HV1.out.up hbq)
    have HB2 := Lib.hid (bup HB1.out hbq)
    obtain ⟨N, hN⟩ : ∃ N, N = a * b := ⟨_, rfl⟩
    have hNL : N ≤ L.length := by rw [hN, HLl.out]; exact Nat.mul_le_mul (by omega) (by omega)
    have sN : wrap64 ((a : Int) * (b : Int)) = (N : Int) := by
      have : (a : Int) * (b : Int) = (N : Int) := by rw [hN]; simp
      rw [this]; unfold wrap64; omega
    have HN := Lib.hid hN
    have hsm : L.length ≤ 1000000 := by omega
    have hPs : Hid ((partOf L W x y a b).length ≤ 1000000) := Lib.hid (by rw [partOf_len, ← hN]; exact Nat.le_trans hNL hsm)
    clear hbq HV1 HB1 hN
    go_wp2_with fail
    refine (grayCrop_any v1 L W H x y a b w2 HV2.out HLl.out ha1.2 hb1.2 ha1.1 hb1.1 hsm).mono ?_
    rintro e w3 ⟨v3, rfl, hv3, hb3⟩
    obtain ⟨A3, q3, rfl, -, -, -⟩ := id hv3
    rw [b8_len, partOf_len, ← HN.out] at hv3 ⊢
    have HV3 := Lib.hid hv3
    have HB3 := Lib.hid (bup HB2.out hb3)
    have HVL := Lib.hid (HV2.out.up hb3)
    clear hv3 hb3 HV2 HB2
    go_wp2_with fail
    have hPl : (partOf L W x y a b).length = a * b := partOf_len _ _ _ _ _ _
    refine (grayCrop_any _ (partOf L W x y a b) a b i k c d w3 HV3.out hPl hc1.2 hd1.2 hc1.1 hd1.1 hPs.out).mono ?_
    rintro e w4 ⟨v4, rfl, hv4, hb4⟩
    rw [part_part L W x y a b i k c d hc1.1 hc1.2 hd1.2] at hv4
    have HV4 := Lib.hid hv4
    have HB4 := Lib.hid (bup HB3.out hb4)
    have HVL4 := Lib.hid (HVL.out.up hb4)
    obtain ⟨u, hu⟩ : ∃ u, u = x + i := ⟨_, rfl⟩
    obtain ⟨t, ht⟩ : ∃ t, t = y + k := ⟨_, rfl⟩
    have e1 : (x : Int) + (i : Int) = (u : Int) := by omega
    have e2 : (y : Int) + (k : Int) = (t : Int) := by omega
    rw [← hu, ← ht] at HV4
    have hul : u + c ≤ W := by omega
    have htl : t + d ≤ H := by omega
    clear hv4 hb4 HV3 HB3 HVL hu ht hPl
    go_wp2_with fail
    refine (grayCrop_any v1 L W H u t c d w4 HVL4.out HLl.out hul htl hc1.1 hd1.1 hsm).mono ?_
    rintro e w5 ⟨v5, rfl, hv5, hb5⟩
    have HV5 := Lib.hid hv5
    have HB5 := Lib.hid (bup HB4.out hb5)
    have HV45 := Lib.hid (HV4.out.up hb5)
    have hlt : ∀ z ∈ partOf L W u t c d, z < 256 := fun z hz => by
      simp only [partOf, List.mem_map, List.mem_range] at hz
      obtain ⟨j, _, rfl⟩ := hz
      rw [List.getD]
      rcases Nat.lt_or_ge ((t + j / c) * W + u + j % c) L.length with h | h
      · rw [List.getElem?_eq_getElem h]; exact HLt.out _ (List.getElem_mem h)
      · rw [List.getElem?_eq_none h]; decide
    clear hv5 hb5 HV4 HB4 HVL4
    go_wp2_with fail
    refine (same_any v4 v5 _ w5 HV45.out.rd HV5.out.rd hlt).mono ?_
    rintro e w6 ⟨rfl, rfl⟩
    go_wp2
    go_ret
    exact ⟨rfl, HB5.out⟩
end Go.Proofs.Ytimfaplnhlnjlaa
