/-
  WALKS: the encoder: its generators.
-/
import Derived.Test.YtneojmkccgjcgaaRd1
namespace Go.Proofs.Ytneojmkccgjcgaa
open Go.RowKit

theorem PolyAt.grown {w w' : World} {q g : Nat} {l : List Nat} {row : Option Nat} (h : PolyAt w q g l) (hb : w.grownBy w' row)
    (hr : ∀ k, row = some k → ∃ cs t fr, w.heap[k]? = some (.cells cs t fr) ∧ t ≠ 3 ∧ t ≠ 77) : PolyAt w' q g l := by
  obtain ⟨sl, h1, h2⟩ := h
  refine ⟨sl, h1.grown hb (fun he => ?_), h2.grown hb (fun k hk => ?_)⟩
  · obtain ⟨cs, t, fr, h3, _, h5⟩ := hr q he.symm
    unfold Blk at h1
    rw [h1] at h3
    injection h3 with h3
    injection h3 with _ h6
    exact h5 h6.symm
  · obtain ⟨cs, t, fr, h3, h4, _⟩ := hr k hk
    exact ⟨cs, t, fr, h3, h4⟩
theorem own_row_type {w : World} {base n size : Nat} {e : TypeId} {v : Value} {xs : List Value} (h : w.ownsRow base e size v n xs) : ∀ k, v.ownBlock = some k → ∃ cs fr, w.heap[k]? = some (.cells cs e fr) := by
  intro k hk
  rcases h.2 with ⟨rfl, _⟩ | ⟨g, cap, cur, rfl, _, hg, _⟩
  · simp [Value.ownBlock] at hk
  · simp only [Value.ownBlock, Option.some.injEq] at hk
    subst hk
    exact ⟨_, _, hg⟩
theorem own_far {w : World} {base n size : Nat} {e : TypeId} {v : Value} {xs : List Value} (h : w.ownsRow base e size v n xs) {p : Addr} {t : TypeId} {cs : Array Value} (hp : Blk w p.block t cs) (ht : t ≠ e) (u : Value) :
    (w.setCell p u).ownsRow base e size v n xs := by
  refine ⟨h.1, ?_⟩
  rcases h.2 with hn | ⟨g, cap, cur, rfl, hb, hg, rest⟩
  · exact .inl hn
  · refine .inr ⟨g, cap, cur, rfl, hb, (Below.heap_setCell w p u g (fun he => ?_)).trans hg, rest⟩
    subst he
    unfold Blk at hp
    rw [hp] at hg
    injection hg with hg
    injection hg with _ h6
    exact ht h6
theorem Blk.grownT {w w' : World} {g : Nat} {t : TypeId} {cs : Array Value} {base n size : Nat} {e : TypeId} {v : Value} {xs : List Value} (h : Blk w g t cs) (ho : w.ownsRow base e size v n xs) (ht : t ≠ e) (hb : w.grownBy w' v.ownBlock) : Blk w' g t cs := by
  refine h.grown hb (fun he => ?_)
  obtain ⟨cs', fr, h3⟩ := own_row_type ho g he.symm
  unfold Blk at h
  rw [h] at h3
  injection h3 with h3
  injection h3 with _ h6
  exact ht h6

theorem info_polyp : (Try.prog.info? 54).map (fun i => (i.zero, i.size, i.bytes)) = some (some (.pointer none), 1, 8) := by kernel_rfl

/-- NewReedSolomonEncoder. -/
theorem newEncoder_any (g : Nat) (w : World) :
    Calls Try.prog 34 #[.pointer (some ⟨g, 0, none⟩)] w fun e w' => ∃ ge gc q0, e = .returned (.pointer (some ⟨ge, 0, none⟩)) ∧
      Blk w' ge 83 #[.pointer (some ⟨g, 0, none⟩), .slice (some ⟨gc, 0, none⟩) 1 1] ∧ Blk w' gc 54 #[.pointer (some ⟨q0, 0, none⟩)] ∧ PolyAt w' q0 g [1] ∧
      w.heap.size ≤ gc ∧ w.heap.size ≤ ge ∧ Below w.heap.size w w' := by
  have HP1 : Hid (RdT (w.alloc (.cells #[.int .i64 1] 3)) 3 (.slice (some ⟨w.heap.size, 0, none⟩) 1 1) (nv [1])) := Lib.hid (RdT.one rfl 3 (.int .i64 1))
  go_enter Try.func34, Try.ntmps34
  go_wp2_with fail
  refine (newPoly_any g _ [1] _ HP1.out (by simp)).mono ?_
  rintro e w1 ⟨q0, rfl, hq0, hb1⟩
  have HB1 := Lib.hid (bup (bal (brf w) _) hb1); clear hb1
  have HQ0 := Lib.hid hq0; clear hq0
  go_wp2
  go_ret
  have hsz := HB1.out.size
  refine ⟨_, _, q0, rfl, Blk.fresh' (by simp), (Blk.fresh w1 _ _).alloc _, (HQ0.out.up (bal (bal (brf w1) _) _)), ?_, ?_, bal (bal HB1.out _) _⟩
  · exact hsz
  · exact Nat.le_trans hsz (by simp)

set_option maxRecDepth 100000 in
set_option maxHeartbeats 4000000 in
/-- buildGenerator, of a new encoder. -/
theorem buildGen_any (F : Gf.Fd) (hF : Gf.Ok F) (h12 : F.m ≤ 12) (g ge gc q0 n : Nat) (v0 w : World) (hB : Below v0.heap.size v0 w) (hf : FieldAt v0 g F)
    (hge : Blk w ge 83 #[.pointer (some ⟨g, 0, none⟩), .slice (some ⟨gc, 0, none⟩) 1 1]) (hgc : Blk w gc 54 #[.pointer (some ⟨q0, 0, none⟩)]) (hq : PolyAt w q0 g [1])
    (h1 : v0.heap.size ≤ gc) (h2 : v0.heap.size ≤ ge) (hn1 : 1 ≤ n) (hn : n + F.b ≤ F.s) :
    Calls Try.prog 48 #[.pointer (some ⟨ge, 0, none⟩), .int .i64 n] w fun e w' => ∃ q, e = .returned (.pointer (some ⟨q, 0, none⟩)) ∧ PolyAt w' q g (Gf.gen F n) ∧
      w'.cell? ⟨ge, 0, none⟩ = some (.pointer (some ⟨g, 0, none⟩)) ∧ Below v0.heap.size v0 w' := by
  have hs12 := s_le F h12
  have hs4 := Gf.s_ge4 hF
  obtain ⟨i0, hi0, hz0, hz1, hz2⟩ := info_parts info_polyp
  have c0 : w.cell? ⟨ge, 0, none⟩ = some (.pointer (some ⟨g, 0, none⟩)) := by rw [hge.cell]; rfl
  have c1 : w.cell? ⟨ge, 1, none⟩ = some (.slice (some ⟨gc, 0, none⟩) 1 1) := by rw [hge.cell]; rfl
  have c2 : w.cell? ⟨gc, 0, none⟩ = some (.pointer (some ⟨q0, 0, none⟩)) := by rw [hgc.cell]; rfl
  have how : w.ownsRow v0.heap.size 54 1 (.slice (some ⟨gc, 0, none⟩) 1 1) 1 [.pointer (some ⟨q0, 0, none⟩)] :=
    ⟨rfl, .inr ⟨gc, 1, _, rfl, h1, hgc, Nat.le_refl _, by decide, rfl, rfl⟩⟩
  have HO := Lib.hid how; clear how
  have HQ := Lib.hid hq; clear hq
  have HE := Lib.hid hge; clear hge hgc
  have HB := Lib.hid hB; clear hB
  have HF := Lib.hid hf; clear hf
  have HG := Lib.hid (Gf.gen_spec hF)
  have hn1' : (1 : Int) ≤ (n : Int) := by omega
  go_enter Try.func48, Try.ntmps48
  go_wp2
  clear c1 c2
  go_loopw [6, 7] (fun lv dv wr => ∃ (d last : Nat) (v : Value) (ps : List Value), 1 ≤ d ∧ d ≤ n + 1 ∧ lv = .pointer (some ⟨last, 0, none⟩) ∧ dv = .int .i64 d ∧ Hid (PolyAt wr last g (Gf.gen F (d - 1))) ∧
    Hid (Blk wr ge 83 #[.pointer (some ⟨g, 0, none⟩), v]) ∧ Hid (wr.ownsRow v0.heap.size 54 1 v d ps) ∧ Hid (ps[d - 1]? = some (.pointer (some ⟨last, 0, none⟩))) ∧
    Hid (Below v0.heap.size v0 wr)) (fun _ dv _ => n + 1 - (intOf dv).toNat)
  case atStart => exact ⟨1, q0, _, _, Nat.le_refl _, by omega, rfl, rfl, HQ, HE, HO, Lib.hid rfl, HB⟩
  case round =>
    clear HQ HE HO HB c0
    obtain ⟨d, last, v, ps, hd1, hd, rfl, rfl, HQ, HE, HO, HP, HB⟩ := hrel
    have d0 : wr.cell? ⟨ge, 0, none⟩ = some (.pointer (some ⟨g, 0, none⟩)) := by rw [HE.out.cell]; rfl
    have d1 : wr.cell? ⟨ge, 1, none⟩ = some v := by rw [HE.out.cell]; rfl
    by_cases hlt : d ≤ n
    · have s1 : IntKind.i64.wrap ((d : Int) - 1) = (d : Int) - 1 := by rw [IntKind.wrap_i64]; omega
      have s2 : IntKind.i64.wrap ((d : Int) - 1 + (F.b : Int)) = (d : Int) - 1 + (F.b : Int) := by rw [IntKind.wrap_i64]; omega
      have s3 : (d : Int) - 1 + (F.b : Int) = ((d - 1 + F.b : Nat) : Int) := by omega
      have HS3 := Lib.hid s3; clear s3
      go_wp2_with fail
      refine Can.wp_region_can (fun w' => w'.cell? ⟨ge, 0, none⟩ = some (.pointer (some ⟨g, 0, none⟩)) ∧ Below v0.heap.size v0 w' ∧ Below wr.heap.size wr w') 999 [0, 1, 2, 3, 4, 5, 6, 7, 8, 9, 10, 11, 12, 13, 14, 15, 16, 17, 18, 19, 20, 21, 22, 23] (by kernel_rfl) (by kernel_rfl) (fun _ _ d _ _ h => by cases d <;> exact h) ⟨d0, bdr HB.out, bdr (brf _)⟩ (fun hHeld => ?_)
      repeat (refine Can.can_pure (v := ?_) rfl rfl (Or.inl ⟨by rfl, ?_⟩) ?_; rotate_left; (focus ((intro w hSw); (try dsimp only at hSw); go_simp; (try with_reducible rfl))); (try simp only [Act.put, List.getElem_toArray, List.getElem_cons_succ, List.getElem_cons_zero, List.setIfInBounds_toArray, List.set_cons_zero, List.set_cons_succ]))
      refine Can.can_eff rfl rfl (by rfl) (fun K hK => ?_)
      go_simp
      refine (getBase_any g F _ (HF.out.up hHeld.2.1)).mono ?_
      rintro e w2 ⟨rfl, rfl⟩
      refine hK.out _ _ hHeld (fun hHeld1 => ?_)
      clear hK K
      (try simp only [Act.put, List.getElem_toArray, List.getElem_cons_succ, List.getElem_cons_zero, List.setIfInBounds_toArray, List.set_cons_zero, List.set_cons_succ])
      repeat (refine Can.can_pure (v := ?_) rfl rfl (Or.inl ⟨by rfl, ?_⟩) ?_; rotate_left; (focus ((intro w hSw); (try dsimp only at hSw); go_simp; (try with_reducible rfl))); (try simp only [Act.put, List.getElem_toArray, List.getElem_cons_succ, List.getElem_cons_zero, List.setIfInBounds_toArray, List.set_cons_zero, List.set_cons_succ]))
      rw [HS3.out]
      refine Can.can_eff rfl rfl (by rfl) (fun K hK => ?_)
      go_simp
      refine (exp_any g F h12 (d - 1 + F.b) (by omega) _ (HF.out.up hHeld1.2.1)).mono ?_
      rintro e w2 ⟨rfl, rfl⟩
      refine hK.out _ _ hHeld1 (fun hHeld2 => ?_)
      clear hK K
      (try simp only [Act.put, List.getElem_toArray, List.getElem_cons_succ, List.getElem_cons_zero, List.setIfInBounds_toArray, List.set_cons_zero, List.set_cons_succ])
      repeat (refine Can.can_pure (v := ?_) rfl rfl (Or.inl ⟨by rfl, ?_⟩) ?_; rotate_left; (focus ((intro w hSw); (try dsimp only at hSw); go_simp; (try with_reducible rfl))); (try simp only [Act.put, List.getElem_toArray, List.getElem_cons_succ, List.getElem_cons_zero, List.setIfInBounds_toArray, List.set_cons_zero, List.set_cons_succ]))
      have hxl := Gf.ex_lt hF (d - 1 + F.b)
      have hgn : tidy (Gf.prod F (Gf.gen F (d - 1)) [1, Gf.ex F (d - 1 + F.b)]) = Gf.gen F d := by
        obtain ⟨k, rfl⟩ : ∃ k, d = k + 1 := ⟨d - 1, by omega⟩
        rfl
      obtain ⟨g1, g2, g3, _⟩ := HG.out (d - 1)
      have hgt : Tidy (Gf.gen F (d - 1)) := ⟨by rw [g1]; simp, .inr (by rw [g1]; simp)⟩
      have hgl : (Gf.gen F (d - 1)).length ≤ 4097 := by rw [g1, List.length_cons, g2]; omega
      generalize Gf.ex F (d - 1 + F.b) = x at *
      have hps : ∀ z ∈ [1, x], z < F.s := fun z hz => by
        rcases List.mem_cons.1 hz with rfl | hz
        · omega
        · rw [List.mem_singleton] at hz; rw [hz]; exact hxl
      have HPS := Lib.hid (And.intro g3 (And.intro hps (And.intro hgn hgt))); clear g1 g2 g3 hps hgn hgt
      have HPr : Hid (RdT (wr.alloc (.cells #[.int .i64 1, .int .i64 x] 3)).drew 3 (.slice (some ⟨wr.heap.size, 0, none⟩) 2 2) (nv [1, x])) := Lib.hid (RdT.of_blk (xs := nv [1, x]) (Blk.fresh wr 3 _).drew rfl (Nat.le_refl _) (by show 2 ≤ maxLen; decide))
      refine Can.can_eff rfl rfl (by rfl) (fun K hK => ?_)
      go_simp
      refine hK.out _ _ ⟨cell_up hHeld2.1 (bal (brf _) _), bal hHeld2.2.1 _, bal hHeld2.2.2 _⟩ (fun hHeld3 => ?_)
      clear hK K
      (try simp only [Act.put, List.getElem_toArray, List.getElem_cons_succ, List.getElem_cons_zero, List.setIfInBounds_toArray, List.set_cons_zero, List.set_cons_succ])
      repeat (refine Can.can_pure (v := ?_) rfl rfl (Or.inl ⟨by rfl, ?_⟩) ?_; rotate_left; (focus ((intro w hSw); (try dsimp only at hSw); go_simp; (try with_reducible rfl))); (try simp only [Act.put, List.getElem_toArray, List.getElem_cons_succ, List.getElem_cons_zero, List.setIfInBounds_toArray, List.set_cons_zero, List.set_cons_succ]))
      refine Can.can_eff rfl rfl (by rfl) (fun K hK => ?_)
      go_simp
      refine (newPoly_any g _ [1, x] _ HPr.out (by simp)).mono ?_
      rintro e w2 ⟨qp, rfl, hqp, hb2⟩
      refine hK.out _ _ ⟨cell_up hHeld3.1 hb2, bup hHeld3.2.1 hb2, bup hHeld3.2.2 hb2⟩ (fun hHeld4 => ?_)
      clear hK K
      (try simp only [Act.put, List.getElem_toArray, List.getElem_cons_succ, List.getElem_cons_zero, List.setIfInBounds_toArray, List.set_cons_zero, List.set_cons_succ])
      repeat (refine Can.can_pure (v := ?_) rfl rfl (Or.inl ⟨by rfl, ?_⟩) ?_; rotate_left; (focus ((intro w hSw); (try dsimp only at hSw); go_simp; (try with_reducible rfl))); (try simp only [Act.put, List.getElem_toArray, List.getElem_cons_succ, List.getElem_cons_zero, List.setIfInBounds_toArray, List.set_cons_zero, List.set_cons_succ]))
      refine Can.can_done ?_
      have HB2 := Lib.hid hHeld4.2.1
      have HW2 := Lib.hid hHeld4.2.2
      have ht1 : tidy [1, x] = [1, x] := Gf.tidy_cons_ne _ (by decide)
      rw [ht1] at hqp
      have HQP := Lib.hid hqp; clear hqp hHeld hHeld1 hHeld2 hHeld3 hHeld4 hb2 ht1 s1 s2
      have hxt : Tidy [1, x] := ⟨by simp, .inr (by simp)⟩
      have HXT := Lib.hid hxt; clear hxt
      generalize hgi : Gf.gen F (d - 1) = gi at *
      clear hgi
      go_wp2_with fail
      refine (polyMul_any F hF h12 g last qp gi [1, x] _ (HF.out.up HB2.out) (HQ.out.up HW2.out) HQP.out HPS.out.1 HPS.out.2.1 HPS.out.2.2.2 HXT.out (by omega) (by simp)).mono ?_
      rintro e w3 ⟨qn, rfl, hqn, hb3⟩
      rw [HPS.out.2.2.1] at hqn
      have HB3 := Lib.hid (bup HB2.out hb3)
      have HW3 := Lib.hid (bup HW2.out hb3); clear hb3
      have HQN := Lib.hid hqn; clear hqn
      have HE3 := Lib.hid (HE.out.up HW3.out)
      have HO3 := Lib.hid (own_up HO.out HW3.out)
      have e0 : w3.cell? ⟨ge, 0, none⟩ = some (.pointer (some ⟨g, 0, none⟩)) := by rw [HE3.out.cell]; rfl
      have e1 : w3.cell? ⟨ge, 1, none⟩ = some v := by rw [HE3.out.cell]; rfl
      have hsz := HB3.out.size
      clear d0 d1
      go_wp2_with (with_reducible refine stop_at (o := ⟨some 69, _, _, _, _, _⟩) ?_)
      refine Lib.hid ?_
      refine list_app_rd _ rfl _ _ 81 rfl v0.heap.size 54 i0 _ 8 Try.underlying81 hi0 hz0 hz1 hz2 rfl _ d ps rfl (HO3.out.alloc _) _ _ [.pointer (some ⟨qn, 0, none⟩)] rfl (Rd.one rfl 54 (.pointer (some ⟨qn, 0, none⟩))) (fun u hu => by rw [List.mem_singleton] at hu; rw [hu]; rfl) (by simp only [List.length_singleton]; unfold maxLen; omega) (by simp only [List.length_singleton]; omega) (Nat.le_trans hsz (by simp)) ?_
      intro v5 w5 ho5 hg5
      obtain ⟨v6, hv6⟩ : ∃ v6, v6 = v5 := ⟨_, rfl⟩
      obtain ⟨A5, c5, hv5, _, _, _⟩ := RdT.of_own ho5
      obtain ⟨n5, hn5⟩ : ∃ n5, n5 = (ps ++ [Value.pointer (some ⟨qn, 0, none⟩)]).length := ⟨_, rfl⟩
      rw [← hn5] at hv5
      clear hv6 hn5
      subst hv5
      have HO5 := Lib.hid ho5
      have HG5 := Lib.hid hg5
      clear ho5 hg5
      have HE5 := Lib.hid ((HE3.out.alloc _).grownT (HO3.out.alloc _) (by decide) HG5.out)
      have f1 : w5.frozen? ⟨ge, 1, none⟩ = false := HE5.out.frozen 1
      have e5 : w5.cell? ⟨ge, 1, none⟩ = some v := by rw [HE5.out.cell]; rfl
      have HQ5 : Hid (PolyAt w5 qn g (Gf.gen F d)) := Lib.hid ((HQN.out.up (bal (brf w3) _)).grown HG5.out (fun k hk => by
        obtain ⟨cs, fr, h3⟩ := own_row_type (HO3.out.alloc _) k hk
        exact ⟨cs, _, fr, h3, by decide, by decide⟩))
      have HQ6 := Lib.hid (HQ5.out.far (p := ⟨ge, 1, none⟩) HE5.out (by decide) (by decide) (.slice A5 n5 c5))
      have HO6 := Lib.hid (own_far HO5.out (p := ⟨ge, 1, none⟩) HE5.out (by decide) (.slice A5 n5 c5))
      have HE6 := Lib.hid (HE5.out.put 1 (.slice A5 n5 c5))
      have HB6 := Lib.hid ((below_grown (bal HB3.out _) HG5.out (HO3.out.alloc _) (Nat.le_trans hsz (by simp))).setCell (p := ⟨ge, 1, none⟩) h2 (.slice A5 n5 c5))
      have hps6 : (ps ++ [Value.pointer (some ⟨qn, 0, none⟩)])[d + 1 - 1]? = some (.pointer (some ⟨qn, 0, none⟩)) := by
        have hl : ps.length = d := by have := HO3.out.1; omega
        rw [Nat.add_sub_cancel, ← hl, List.getElem?_concat_length]
      have HP6 := Lib.hid hps6; clear hps6
      clear HQ5 HO5 HE5 HG5 e0 e1
      go_wp2
      go_roundw
      case rel => exact ⟨d + 1, qn, .slice A5 n5 c5, _, by omega, by omega, rfl, by go_num, HQ6, HE6, HO6, HP6, HB6⟩
      case measure => simp [intOf]; omega
    · obtain rfl : d = n + 1 := by omega
      have hsz := HB.out.size
      obtain ⟨A, cap, hv, k1, k2, k3⟩ := (RdT.of_own HO.out).rd
      have hl : ps.length = n + 1 := by have := HO.out.1; omega
      rw [hl] at hv k1 k3
      subst hv
      obtain ⟨b, o, rfl, _, hc⟩ := k3 (by omega)
      have cp := hc n _ HP.out
      unfold maxLen at k2
      clear k3 hc
      go_wp2
      go_ret
      exact ⟨last, rfl, HQ.out, d0, HB.out⟩
end Go.Proofs.Ytneojmkccgjcgaa
