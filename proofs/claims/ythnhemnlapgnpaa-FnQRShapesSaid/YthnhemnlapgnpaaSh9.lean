/-
  THE LAW of the shapes of versions, walked.
-/
import Derived.Test.YthnhemnlapgnpaaSh8
namespace Go.Proofs.Ythnhemnlapgnpaa
open Go.RowKit

theorem level_any (n : Nat) (w : World) (h : n < 256) : Calls Try.prog 24 #[.int .u8 n] w fun e w' => e = .returned (.int .i64 ((n % 4 : Nat) : Int)) ∧ w' = w := by
  go_enter Try.func24, Try.ntmps24
  go_wp2
  go_ret
  exact ⟨ret_int (by omega), rfl⟩
theorem eq_pair (a b : Int) (w : World) : (Op.equalIn 10000 69 (.agg #[.int .i64 a, .int .i64 b]) (.agg #[.int .i64 a, .int .i64 b])).run Try.prog w = .ok true w := by
  have u3 := Try.underlying3
  have a3 := Try.isAgg3
  have z3 := Try.sizeOf3
  rw [show (10000 : Nat) = 9999 + 1 from rfl, Op.equalIn]
  simp only [Sem.run_bind, run_underlying Try.underlying69, Result.andThen_ok]
  simp only [Std.Legacy.Range.forIn_eq_forIn_range', Std.Legacy.Range.size, Nat.sub_zero, Nat.add_sub_cancel, Nat.div_one, List.range'_succ, List.range'_zero, List.forIn_cons, List.forIn_nil]
  go_simp
def shapeOkB (v l : Nat) : Bool := decide (0 < (grpOf v l).length) && decide (totE (ecOf v l) (grpOf v l) = totOf v) && (grpOf v l).all (fun p => decide (p.1 ≤ 100) && decide (p.2 ≤ 200)) && decide (ecOf v l ≤ 100)
theorem shapeOk_all : ((List.range 40).all fun v => (List.range 4).all fun l => shapeOkB (v + 1) l) = true := by kernel_rfl
theorem shapeOk {v l : Nat} (h1 : 1 ≤ v) (h2 : v ≤ 40) (hl : l < 4) : totE (ecOf v l) (grpOf v l) = totOf v ∧ (∀ p ∈ grpOf v l, p.1 ≤ 100 ∧ p.2 ≤ 200) ∧ ecOf v l ≤ 100 ∧ 0 < (grpOf v l).length := by
  have h := List.all_eq_true.1 (List.all_eq_true.1 shapeOk_all (v - 1) (List.mem_range.2 (by omega))) l (List.mem_range.2 hl)
  rw [Nat.sub_add_cancel h1] at h
  unfold shapeOkB at h
  simp only [Bool.and_eq_true, decide_eq_true_eq, List.all_eq_true] at h
  exact ⟨h.1.1.2, h.1.2, h.2, h.1.1.1⟩
set_option maxRecDepth 100000 in
set_option maxHeartbeats 4000000 in
theorem shapes_walk (z : Int) (n : Nat) (w : World) (hn : n < 256) : Calls Try.prog 7 #[.int .i64 z, .int .u8 n] w fun e w' => e = .returned (.bool true) ∧ Below w.heap.size w w' := by
  obtain ⟨l, hl⟩ : ∃ l, l = n % 4 := ⟨_, rfl⟩
  have hl4 : l < 4 := by omega
  have HLV := Lib.hid (level_any n w hn)
  rw [← hl] at HLV
  clear hl
  by_cases hz : 1 ≤ z ∧ z ≤ 40
  · obtain ⟨v, rfl⟩ := Int.eq_ofNat_of_zero_le (show 0 ≤ z by omega)
    have h1 : 1 ≤ v := by omega
    have h2 : v ≤ 40 := by omega
    obtain ⟨t1, t2, t3, t4⟩ := shapeOk h1 h2 hl4
    have HT1 := Lib.hid t1; have HT2 := Lib.hid t2
    have hdec : decide (1 ≤ (v : Int) ∧ (v : Int) ≤ 40) = true := decide_eq_true hz
    have HVR := Lib.hid (fun a => specVer_any (v : Int) a)
    rw [hdec] at HVR
    have HGR : Hid (runsL (sizS v l) = grpOf v l) := Lib.hid (runsOk h1 h2 hl4)
    have HNM : Hid (numOf v l = ((grpOf v l).map (·.1)).sum) := Lib.hid rfl
    obtain ⟨s1, s2⟩ := small_at h2 hl4
    have hsz := (sizOk h1 h2 hl4).2.1
    have hszl := sizS_len v l
    have HSS : Hid ((sizS v l).length ≤ 1000) := Lib.hid (by rw [hszl]; omega)
    clear t1 t2 hdec hszl hsz hz
    go_enter Try.func7, Try.ntmps7
    go_wp2_with fail
    refine (HLV.out).mono ?_
    rintro e w ⟨rfl, rfl⟩
    go_wp2_with fail
    refine (qrShape_yes v l w h1 h2 hl4).mono ?_
    rintro e w1 ⟨s1v, s2v, rfl, hs1, ⟨B1, hB1, hs2⟩, hb1⟩
    have HS1 := Lib.hid hs1; have HS2 := Lib.hid hs2; have HB1 := Lib.hid hb1
    clear hs1 hs2 hb1
    go_wp2_with fail
    refine (HVR.out w1).mono ?_
    rintro e w1 ⟨rfl, rfl⟩
    go_wp2_with fail
    refine (specSizes_any v l w1 h1 h2 hl4).mono ?_
    rintro e w2 ⟨s3v, rfl, hs3, hb2⟩
    have HS3 := Lib.hid hs3
    have HS1b := Lib.hid (HS1.out.up hb2); have HS2b := Lib.hid (own_up HS2.out hb2); have HB2 := Lib.hid (bup HB1.out hb2)
    clear hs3 hb2 HS1 HS2 HB1
    go_wp2_with fail
    refine (groups_any s3v (sizS v l) w2 HS3.out HSS.out).mono ?_
    rintro e w3 ⟨s4v, rfl, hs4, hb3⟩
    rw [HGR.out] at hs4
    have HS4 := Lib.hid hs4
    have HS1c := Lib.hid (HS1b.out.up hb3); have HS2c := Lib.hid (own_up HS2b.out hb3); have HB3 := Lib.hid (bup HB2.out hb3)
    clear hs4 hb3 HS1b HS2b HB2 HS3 HGR HSS
    go_wp2_with fail
    refine (specCor_any v l w3 h1 h2 hl4).mono ?_
    rintro e w4 ⟨rfl, hb4⟩
    have HS4d := Lib.hid (own_up HS4.out hb4)
    have HS1d := Lib.hid (HS1c.out.up hb4); have HS2d := Lib.hid (own_up HS2c.out hb4); have HB4 := Lib.hid (bup HB3.out hb4)
    clear hb4 HS1c HS2c HB3 HS4
    go_wp2_with fail
    refine (specDim_any v w4 h2).mono ?_
    rintro e w4 ⟨rfl, rfl⟩
    go_wp2_with fail
    refine (specTot_any v w4 h1 h2).mono ?_
    rintro e w5 ⟨rfl, hb5⟩
    have HS4e := Lib.hid (own_up HS4d.out hb5)
    have HS1e := Lib.hid (HS1d.out.up hb5); have HS2e := Lib.hid (own_up HS2d.out hb5); have HB5 := Lib.hid (bup HB4.out hb5)
    clear hb5 HS1d HS2d HB4 HS4d
    go_wp2_with fail
    refine (specCen_any v w5 h1 h2).mono ?_
    rintro e w6 ⟨s5v, rfl, hs5, hb6⟩
    have HS5 := Lib.hid hs5
    have HS4f := Lib.hid (own_up HS4e.out hb6)
    have HS1f := Lib.hid (HS1e.out.up hb6); have HS2f := Lib.hid (own_up HS2e.out hb6); have HB6 := Lib.hid (bup HB5.out hb6)
    clear hs5 hb6 HS1e HS2e HB5 HS4e
    go_wp2_with fail
    refine (ints_any s1v s5v (cenOf v) w6 HS1f.out HS5.out).mono ?_
    rintro e w7 ⟨rfl, hb7⟩
    have HS4g := Lib.hid (own_up HS4f.out hb7)
    have HS2g := Lib.hid (own_up HS2f.out hb7); have HB7 := Lib.hid (bup HB6.out hb7)
    clear hb7 HS1f HS2f HB6 HS4f HS5
    generalize grpOf v l = L at *
    generalize ecOf v l = ec at *
    generalize totOf v = T at *
    generalize numOf v l = N at *
    obtain ⟨G, hG⟩ : ∃ G, G = L.length := ⟨_, rfl⟩
    rw [← hG] at HS4g HS2g s1 t4
    obtain ⟨q, rfl⟩ : ∃ q, G = q + 1 := ⟨G - 1, by omega⟩
    obtain ⟨ga, ca, rfl, a1, a2, -, -⟩ := own_someform HS2g.out
    obtain ⟨gb, cb, rfl, e1, e2, -, -⟩ := own_someform HS4g.out
    have hca := HS2g.out.cells (g := ga) rfl
    have hcb := HS4g.out.cells (g := gb) rfl
    have HCA : Hid (∀ i, (h : i < L.length) → w7.cell? ⟨ga, i * 2, none⟩ = some (.int .i64 ((L[i].1 : Nat) : Int)) ∧ w7.cell? ⟨ga, i * 2 + 1, none⟩ = some (.int .i64 ((L[i].2 : Nat) : Int))) := Lib.hid (fun i h => by
      obtain ⟨x1, x2⟩ := cellsE_at L i h
      have y1 := hca _ _ x1
      have y2 := hca _ _ x2
      rw [addr_add', Nat.zero_add] at y1 y2
      exact ⟨y1, y2⟩)
    have HCB : Hid (∀ i, (h : i < L.length) → w7.cell? ⟨gb, i * 2, none⟩ = some (.int .i64 ((L[i].1 : Nat) : Int)) ∧ w7.cell? ⟨gb, i * 2 + 1, none⟩ = some (.int .i64 ((L[i].2 : Nat) : Int))) := Lib.hid (fun i h => by
      obtain ⟨x1, x2⟩ := cellsE_at L i h
      have y1 := hcb _ _ x1
      have y2 := hcb _ _ x2
      rw [addr_add', Nat.zero_add] at y1 y2
      exact ⟨y1, y2⟩)
    generalize q + 1 = G at *
    have HG := Lib.hid hG
    clear hca hcb HS2g HS4g hG
    go_wp2_with fail
    go_loopw [15, 16, 81] (fun tv cv iv wr => ∃ i t c : Nat, i ≤ G ∧ iv = .int .i64 i ∧ tv = .int .i64 t ∧ cv = .int .i64 c ∧ t ≤ 40000 * i ∧ c ≤ 100 * i ∧ Hid (t = totE ec (L.take i)) ∧ Hid (c = ((L.take i).map (·.1)).sum) ∧ Hid (Below w7.heap.size w7 wr)) (fun _ _ iv _ => G - (intOf iv).toNat)
    case atStart => exact ⟨0, 0, 0, Nat.zero_le _, rfl, rfl, rfl, by omega, by omega, Lib.hid rfl, Lib.hid rfl, Lib.hid (brf w7)⟩
    case round =>
      obtain ⟨i, t, c, hi, rfl, rfl, rfl, ht, hc, HT, HC, HB⟩ := hrel
      by_cases hlt : i < G
      · have hiL : i < L.length := by rw [← HG.out]; exact hlt
        obtain ⟨x1, x2⟩ := HCA.out i hiL
        obtain ⟨y1, y2⟩ := HCB.out i hiL
        have r1 := cell_up x1 HB.out; have r2 := cell_up x2 HB.out; have r3 := cell_up y1 HB.out; have r4 := cell_up y2 HB.out
        have hts := totE_snoc ec (L.take i) L[i]
        rw [← List.take_succ_eq_append_getElem hiL] at hts
        have hcs : ((L.take (i + 1)).map (·.1)).sum = ((L.take i).map (·.1)).sum + L[i].1 := by
          rw [List.take_succ_eq_append_getElem hiL, List.map_append, List.sum_append]
          simp only [List.map_cons, List.map_nil, List.sum_cons, List.sum_nil, Nat.add_zero]
        have hbd := HT2.out L[i] (List.getElem_mem hiL)
        generalize L[i] = pq at *
        obtain ⟨a, b⟩ := pq
        simp only at r1 r2 r3 r4 hts hcs hbd
        obtain ⟨P, hP⟩ : ∃ P, P = a * (b + ec) := ⟨_, rfl⟩
        have bP : P ≤ 100 * 300 := by rw [hP]; exact Nat.mul_le_mul hbd.1 (by omega)
        rw [← hP, ← HT.out] at hts
        rw [← HC.out] at hcs
        have HTS := Lib.hid hts.symm; have HCS := Lib.hid hcs.symm
        obtain ⟨S, hS⟩ : ∃ S, S = b + ec := ⟨_, rfl⟩
        have eS : (b : Int) + (ec : Int) = (S : Int) := by omega
        have bP2 : P ≤ 30000 := by omega
        have bT2 : t ≤ 80000 := by omega
        have sTP : wrap64 ((t : Int) + (P : Int)) = (t : Int) + (P : Int) := by clear hts hcs hP; unfold wrap64; omega
        have HSTP := Lib.hid sTP
        have sP : wrap64 ((a : Int) * (S : Int)) = (P : Int) := by
          have : (a : Int) * (S : Int) = (P : Int) := by rw [hP, hS]; simp
          rw [this]; clear hP hts hcs; unfold wrap64; omega
        clear hts hcs hP hS x1 x2 y1 y2 HT HC
        go_wp2_with fail
        have hba := bal (brf wr) (Obj.cells #[Value.int .i64 (a : Int), Value.int .i64 (b : Int)] 69)
        have hbk : Blk (wr.alloc (Obj.cells #[Value.int .i64 (a : Int), Value.int .i64 (b : Int)] 69)) wr.heap.size 69 #[Value.int .i64 (a : Int), Value.int .i64 (b : Int)] := Blk.fresh wr _ _
        have q1 := hbk.cell 0
        have q2 := hbk.cell 1
        have q1' : (wr.alloc (Obj.cells #[Value.int .i64 (a : Int), Value.int .i64 (b : Int)] 69)).cell? ⟨wr.heap.size, 0, none⟩ = some (.int .i64 a) := q1
        have q2' : (wr.alloc (Obj.cells #[Value.int .i64 (a : Int), Value.int .i64 (b : Int)] 69)).cell? ⟨wr.heap.size, 1, none⟩ = some (.int .i64 b) := q2
        have p3 := cell_up r3 hba
        have p4 := cell_up r4 hba
        have HB8 := Lib.hid (bup HB.out hba)
        clear hba hbk q1 q2 r1 r2 r3 r4 HB
        generalize hwl : (wr.alloc (Obj.cells #[Value.int .i64 (a : Int), Value.int .i64 (b : Int)] 69)) = wl at *
        obtain ⟨bl, hbl⟩ : ∃ bl, bl = wr.heap.size := ⟨_, rfl⟩
        rw [← hbl] at q1' q2' ⊢
        clear hwl hbl
        refine Can.wp_region_can (fun w' => w'.cell? ⟨bl, 0, none⟩ = some (.int .i64 a) ∧ w'.cell? ⟨bl, 1, none⟩ = some (.int .i64 b) ∧ w'.cell? ⟨gb, i * 2, none⟩ = some (.int .i64 a) ∧ w'.cell? ⟨gb, i * 2 + 1, none⟩ = some (.int .i64 b)) 999 [0, 1, 2, 3, 4, 5] (by kernel_rfl) (by kernel_rfl) (fun _ _ d _ _ h => by cases d <;> exact h) ⟨q1', q2', p3, p4⟩ (fun hHeld => ?_)
        have heq := eq_pair (a : Int) (b : Int)
        repeat (refine Can.can_pure (v := ?_) rfl rfl (Or.inl ⟨by rfl, ?_⟩) ?_; rotate_left; (focus ((intro w hSw); (try dsimp only at hSw); go_simp; (try with_reducible rfl))); (try simp only [Act.put, List.getElem_toArray, List.getElem_cons_succ, List.getElem_cons_zero, List.setIfInBounds_toArray, List.set_cons_zero, List.set_cons_succ]))
        refine Can.can_done ?_
        have HB9 := Lib.hid (HB8.out.drew)
        have u1 := cell_up q1' (bdr (brf wl))
        have u2 := cell_up q2' (bdr (brf wl))
        clear hHeld q1' q2' p3 p4 HB8 heq
        generalize World.drew wl = wd at *
        go_wp2
        clear sP eS sTP
        go_roundw
        case rel => exact ⟨i + 1, t + P, c + a, by omega, by go_num, by first | go_num | (rw [HSTP.out]; go_num), by go_num, by omega, by omega, Lib.hid HTS.out, Lib.hid HCS.out, HB9⟩
        case measure => simp [intOf]; omega
      · obtain rfl : i = G := by omega
        have hfin : t = T ∧ c = N := by
          have hL : L.take i = L := List.take_of_length_le (by rw [HG.out]; exact Nat.le_refl _)
          have k1 := HT.out; have k2 := HC.out
          rw [hL] at k1 k2
          exact ⟨by rw [k1, HT1.out], by rw [k2, HNM.out]⟩
        obtain ⟨rfl, rfl⟩ := hfin
        have HB9 := Lib.hid (bup HB7.out HB.out)
        clear HT HC HB
        go_wp2
        go_ret
        exact ⟨rfl, HB9.out⟩
  · have hdec : decide (1 ≤ z ∧ z ≤ 40) = false := decide_eq_false hz
    have HVR := Lib.hid (fun a => specVer_any z a)
    rw [hdec] at HVR
    have hz2 : z < 1 ∨ 40 < z := by omega
    clear hdec hz
    go_enter Try.func7, Try.ntmps7
    go_wp2_with fail
    refine (HLV.out).mono ?_
    rintro e w ⟨rfl, rfl⟩
    go_wp2_with fail
    refine (qrShape_no z l w hz2).mono ?_
    rintro e w1 ⟨rfl, hb1⟩
    have HB1 := Lib.hid hb1
    clear hb1
    go_wp2_with fail
    refine (HVR.out w1).mono ?_
    rintro e w1 ⟨rfl, rfl⟩
    go_wp2
    go_ret
    exact ⟨rfl, HB1.out⟩
end Go.Proofs.Ythnhemnlapgnpaa
