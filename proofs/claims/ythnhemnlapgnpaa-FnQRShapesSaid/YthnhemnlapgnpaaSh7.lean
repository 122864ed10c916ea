/-
  WALKS: sizes of blocks; sizes as runs; two lists of numbers compared.
-/
import Derived.Test.YthnhemnlapgnpaaSh6
import Derived.Test.YthnhemnlapgnpaaSh2
namespace Go.Proofs.Ythnhemnlapgnpaa
open Go.RowKit

set_option maxRecDepth 100000 in
set_option maxHeartbeats 2000000 in
theorem specSizes_any (v l : Nat) (w : World) (h1 : 1 ≤ v) (h2 : v ≤ 40) (hl : l < 4) : Calls Try.prog 34 #[.int .i64 (v : Nat), .int .i64 (l : Nat)] w fun e w' => ∃ s, e = .returned s ∧ RdT w' 3 s (nvl (sizS v l)) ∧ Below w.heap.size w w' := by
  obtain ⟨g1, g2, g3, g4⟩ := sizOk h1 h2 hl
  have HC := Lib.hid (specCor_any v l w h1 h2 hl)
  have HT := Lib.hid (fun a => specTot_any v a h1 h2)
  have hsl := sizS_len v l
  have hsa : ∀ i, i < numOf v l → ∃ h : i < (sizS v l).length, (sizS v l)[i] = sizI (totOf v) (numOf v l) (ecOf v l) i := fun i hi => ⟨by rw [hsl]; exact hi, by simp [sizS]⟩
  have HSA := Lib.hid hsa; have HSL := Lib.hid hsl
  clear hsa hsl
  generalize sizS v l = S at *
  generalize ecOf v l = ec at *
  generalize numOf v l = B at *
  generalize totOf v = T at *
  obtain ⟨q, hq⟩ : ∃ q, q = T / B := ⟨_, rfl⟩
  obtain ⟨r, hr⟩ : ∃ r, r = T % B := ⟨_, rfl⟩
  have hrB : r < B := by rw [hr]; exact Nat.mod_lt _ g1
  have hq2 : q ≤ T := by rw [hq]; exact Nat.div_le_self _ _
  rw [← hq] at g3
  obtain ⟨c, hc⟩ : ∃ c, c = q - ec := ⟨_, rfl⟩
  obtain ⟨d, hd⟩ : ∃ d, d = B - r := ⟨_, rfl⟩
  have eQ : (T : Int) / (B : Int) = (q : Int) := by rw [hq]; simp
  have eR : (T : Int) % (B : Int) = (r : Int) := by rw [hr]; simp
  have zB : ((B : Int) == 0) = false := by simp; omega
  have eC : (q : Int) - (ec : Int) = (c : Int) := by omega
  have eD : (B : Int) - (r : Int) = (d : Int) := by omega
  have HSI : Hid (∀ i, sizI T B ec i = c + (if d ≤ i then 1 else 0)) := Lib.hid (fun i => by unfold sizI; rw [← hq, ← hr, ← hc, ← hd])
  have bc : c ≤ 5000 := by omega
  have hmk := fun a => run_mk (P := Try.prog) 57 3 (.int .i64 0) 8 Try.underlying57 info_i64 rfl B (by omega) (by omega) a
  simp only [nvl_rep] at hmk
  have e2 : ¬ (B : Int) < 0 := by omega
  have HE := Lib.hid (And.intro eQ (And.intro eR (And.intro eC eD)))
  clear hq hr hc hd eQ eR eC eD
  go_enter Try.func34, Try.ntmps34
  go_wp2_with fail
  refine (HC.out).mono ?_
  rintro e w1 ⟨rfl, hb1⟩
  have HB1 := Lib.hid hb1
  clear hb1 HC
  go_wp2_with fail
  refine (HT.out w1).mono ?_
  rintro e w2 ⟨rfl, hb2⟩
  have HB2 := Lib.hid (bup HB1.out hb2)
  clear hb2 HT HB1
  go_wp2_with fail
  have HX0 : Hid (Blk (w2.alloc (Obj.cells (nvl (List.replicate B 0)).toArray 3)) w2.heap.size 3 (nvl (fillA S 0 B 0)).toArray) := Lib.hid (by rw [fill_zero]; exact Blk.fresh w2 _ _)
  have HBx := Lib.hid (bal (brf w2) (Obj.cells (nvl (List.replicate B 0)).toArray 3))
  clear hmk e2
  go_loopw [22] (fun iv wr => ∃ i : Nat, i ≤ B ∧ iv = .int .i64 i ∧ Hid (Blk wr w2.heap.size 3 (nvl (fillA S 0 B i)).toArray) ∧ Hid (Below w2.heap.size w2 wr)) (fun iv _ => B - (intOf iv).toNat)
  case atStart => exact ⟨0, Nat.zero_le _, rfl, HX0, HBx⟩
  case round =>
    clear HX0 HBx
    obtain ⟨i, hi, rfl, HX, HB⟩ := hrel
    by_cases hlt : i < B
    · obtain ⟨hil, hci⟩ := HSA.out i hlt
      have hset := fill_set S 0 B i hil (by rw [HSL.out]; exact Nat.le_refl _)
      rw [hci, HSI.out i] at hset
      have hfl : (fillA S 0 B i).length = B := fill_len S 0 B i (by rw [HSL.out]; exact hi) (by rw [HSL.out]; exact Nat.le_refl _)
      have cO : wr.cell? ⟨w2.heap.size, i, none⟩ = some (.int .i64 0) := by
        rw [HX.out.cell, List.getElem?_toArray]
        unfold nvl
        rw [List.getElem?_map, fill_at_k S 0 B i hlt (by rw [HSL.out]; omega)]; rfl
      have fO : wr.frozen? ⟨w2.heap.size, i, none⟩ = false := HX.out.frozen _
      have hp1 := HX.out.put i (.int .i64 (c : Int))
      have hb1 := HB.out.setCell (p := ⟨w2.heap.size, i, none⟩) (Nat.le_refl _) (.int .i64 (c : Int))
      by_cases hdi : d ≤ i
      · rw [if_pos hdi] at hset
        have hp2 := hp1.put i (.int .i64 ((c : Int) + 1))
        have e1 : ((c : Int) + 1) = ((c + 1 : Nat) : Int) := by omega
        rw [nvl_set, e1, nvl_set, List.set_set, hset, ← e1] at hp2
        have HX2 := Lib.hid hp2
        have HB3 := Lib.hid (hb1.setCell (p := ⟨w2.heap.size, i, none⟩) (Nat.le_refl _) (.int .i64 ((c : Int) + 1)))
        obtain ⟨eQ, eR, eC, eD⟩ := HE.out
        clear hset hp1 hb1 hp2 e1 HX HB hci hil hfl
        go_wp2
        clear eQ eR eC eD
        go_roundw
        case rel => exact ⟨i + 1, by omega, by go_num, HX2, HB3⟩
        case measure => simp [intOf]; omega
      · rw [if_neg hdi, Nat.add_zero] at hset
        rw [nvl_set, hset] at hp1
        have HX2 := Lib.hid hp1
        have HB3 := Lib.hid hb1
        obtain ⟨eQ, eR, eC, eD⟩ := HE.out
        clear hset hp1 hb1 HX HB hci hil hfl
        go_wp2
        clear eQ eR eC eD
        go_roundw
        case rel => exact ⟨i + 1, by omega, by go_num, HX2, HB3⟩
        case measure => simp [intOf]; omega
    · obtain rfl : i = B := by omega
      have hz : fillA S 0 i i = S := by have := fill_full S 0; rw [HSL.out] at this; exact this
      have hx := HX.out
      rw [hz] at hx
      have HX2 := Lib.hid hx
      have HB3 := Lib.hid (bup HB2.out HB.out)
      clear hz hx HX HB
      go_wp2
      go_ret
      exact ⟨_, rfl, RdT.of_blk (g := w2.heap.size) HX2.out (by rw [nvl_len, HSL.out]) (by rw [nvl_len, HSL.out]; exact Nat.le_refl _) (by unfold maxLen; omega), HB3.out⟩
set_option maxRecDepth 100000 in
/-- laws.qrInts, of the same. -/
theorem ints_any (u v : Value) (L : List Nat) (w : World) (hu : RdT w 3 u (nvl L)) (hv : RdT w 3 v (nvl L)) : Calls Try.prog 38 #[u, v] w fun e w' => e = .returned (.bool true) ∧ Below w.heap.size w w' := by
  have HU := Lib.hid hu.rd; have HV := Lib.hid hv.rd
  obtain ⟨A, c, rfl, k1, k2, -⟩ := hu
  obtain ⟨A', c', rfl, k3, k4, -⟩ := hv
  rw [nvl_len] at *
  unfold maxLen at k2 k4
  go_enter Try.func38, Try.ntmps38
  go_wp2_with fail
  go_loopw [13] (fun iv wr => ∃ i : Nat, i ≤ L.length ∧ iv = .int .i64 i ∧ Hid (Below w.heap.size w wr)) (fun iv _ => L.length - (intOf iv).toNat)
  case atStart => exact ⟨0, Nat.zero_le _, rfl, Lib.hid (brf w)⟩
  case round =>
    obtain ⟨i, hi, rfl, HB⟩ := hrel
    by_cases hlt : i < L.length
    · obtain ⟨b1, o1, x1, rfl, hb1, hx1, hc1⟩ := HU.out.at_ hlt
      obtain ⟨b2, o2, x2, rfl, hb2, hx2, hc2⟩ := HV.out.at_ hlt
      rw [nvl_at L i hlt] at hx1 hx2
      injection hx1 with hx1
      injection hx2 with hx2
      subst hx1 hx2
      have r1 := cell_up hc1 HB.out
      have r2 := cell_up hc2 HB.out
      clear hc1 hc2
      generalize L[i] = y at *
      go_wp2_with fail
      refine Can.wp_region_can (fun w' => w'.cell? ⟨b1, o1 + i, none⟩ = some (.int .i64 y) ∧ w'.cell? ⟨b2, o2 + i, none⟩ = some (.int .i64 y)) 999 [0, 1, 2, 3, 4, 5, 6, 7, 8] (by kernel_rfl) (by kernel_rfl) (fun _ _ d _ _ h => by cases d <;> exact h) ⟨r1, r2⟩ (fun hHeld => ?_)
      repeat (refine Can.can_pure (v := ?_) rfl rfl (Or.inl ⟨by rfl, ?_⟩) ?_; rotate_left; (focus ((intro w hSw); (try dsimp only at hSw); go_simp; (try with_reducible rfl))); (try simp only [Act.put, List.getElem_toArray, List.getElem_cons_succ, List.getElem_cons_zero, List.setIfInBounds_toArray, List.set_cons_zero, List.set_cons_succ]))
      refine Can.can_done ?_
      have HB2 := Lib.hid (HB.out.drew)
      clear hHeld r1 r2 HB
      generalize World.drew wr = wq at *
      go_wp2
      go_roundw
      case rel => exact ⟨i + 1, by omega, by go_num, HB2⟩
      case measure => simp [intOf]; omega
    · obtain rfl : i = L.length := by omega
      go_wp2
      go_ret
      exact ⟨rfl, HB.out⟩
/-- One size more, in runs. -/
def addRun (g : List (Nat × Nat)) (n : Nat) : List (Nat × Nat) :=
  match g.getLast? with
  | some p => if p.2 = n then g.dropLast ++ [(p.1 + 1, n)] else g ++ [(1, n)]
  | none => [(1, n)]
def runsL (xs : List Nat) : List (Nat × Nat) := xs.foldl addRun []
def runsOkB (v l : Nat) : Bool := decide (runsL (sizS v l) = grpOf v l)
theorem runsOk_all : ((List.range 40).all fun v => (List.range 4).all fun l => runsOkB (v + 1) l) = true := by kernel_rfl
theorem runsOk {v l : Nat} (h1 : 1 ≤ v) (h2 : v ≤ 40) (hl : l < 4) : runsL (sizS v l) = grpOf v l := by
  have h := List.all_eq_true.1 (List.all_eq_true.1 runsOk_all (v - 1) (List.mem_range.2 (by omega))) l (List.mem_range.2 hl)
  rw [Nat.sub_add_cancel h1] at h
  unfold runsOkB at h
  exact of_decide_eq_true h
theorem own_set2 {w : World} {base n g cap j : Nat} {e : TypeId} {xs : List Value} (h : w.ownsRow base e 2 (.slice (some ⟨g, 0, none⟩) n cap) n xs) (u : Value) : (w.setCell ⟨g, j, none⟩ u).ownsRow base e 2 (.slice (some ⟨g, 0, none⟩) n cap) n (xs.set j u) := by
  obtain ⟨h1, h2 | ⟨g', cap', cur, hv, hb, hg, hn, hc, hs, ht⟩⟩ := h
  · cases h2.1
  · injection hv with e1 _ e2
    injection e1 with e1
    injection e1 with e1 _ _
    subst e1 e2
    refine ⟨by rw [List.length_set]; exact h1, .inr ⟨g, cap, cur.setIfInBounds j u, rfl, hb, Blk.put (w := w) (g := g) (t := e) (cs := cur) hg j u, hn, hc, by simpa using hs, ?_⟩⟩
    rw [Array.toList_setIfInBounds, ← ht, List.take_set]
end Go.Proofs.Ythnhemnlapgnpaa
