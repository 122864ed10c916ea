/-
  WALKS: spec.dmValues, dmTriples.
-/
import Derived.Test.YtjpcajecmfhppaaDoorDe1
namespace Go.Proofs.YtjpcajecmfhppaaDoor
open Go.RowKit

def nv (l : List Nat) : List Value := l.map fun n : Nat => Value.int .i64 (n : Int)
theorem nv_len (l : List Nat) : (nv l).length = l.length := by simp [nv]
theorem nv_app (a b : List Nat) : nv (a ++ b) = nv a ++ nv b := by simp [nv]
theorem nv_one (l : List Nat) : ∀ u ∈ nv l, u.oneCell' = true := fun u hu => by
  simp only [nv, List.mem_map] at hu
  obtain ⟨x, _, rfl⟩ := hu
  rfl
theorem wv8_one (l : List Nat) : ∀ u ∈ wv8 l, u.oneCell' = true := fun u hu => by
  simp only [wv8, List.mem_map] at hu
  obtain ⟨x, _, rfl⟩ := hu
  rfl
theorem nv_at (l : List Nat) (i : Nat) (h : i < l.length) : (nv l)[i]? = some (.int .i64 ((l.getD i 0 : Nat) : Int)) := by
  rw [List.getD, List.getElem?_eq_getElem h]; simp [nv, h]
theorem rd1 (w : World) (a : Nat) : RdT (w.alloc (.cells #[.int .i64 (a : Int)] 3)) 3 (.slice (some ⟨w.heap.size, 0, none⟩) 1 1) (nv [a]) := RdT.of_blk (xs := nv [a]) (Blk.fresh w _ _) rfl (Nat.le_refl _) (by decide)
theorem rd2 (w : World) (a b : Nat) : RdT (w.alloc (.cells #[.int .i64 (a : Int), .int .i64 (b : Int)] 3)) 3 (.slice (some ⟨w.heap.size, 0, none⟩) 2 2) (nv [a, b]) := RdT.of_blk (xs := nv [a, b]) (Blk.fresh w _ _) rfl (Nat.le_refl _) (by decide)
set_option maxRecDepth 100000 in
theorem dmValues_any (c : UInt8) (w : World) (h : c.toNat < 128) : Calls Tryd.prog 42 #[.int .u8 c.toNat, .bool false] w fun e w' => ∃ v, e = .returned v ∧ RdT w' 3 v (nv (c40V c.toNat)) ∧ Below w.heap.size w w' := by
  by_cases h1 : c.toNat = 32
  · have hv : c40V c.toNat = [3] := by unfold c40V; rw [if_pos h1]
    have hc : (c.toNat : Int) = 32 := by omega
    rw [hv]
    clear hv h1
    go_enter Tryd.func42, Tryd.ntmps42
    go_wp2_with fail
    go_ret
    exact ⟨_, rfl, rd1 w 3, bal (brf w) _⟩
  · have hn32 : ¬ (c.toNat : Int) = 32 := by omega
    by_cases h2 : 48 ≤ c.toNat ∧ c.toNat ≤ 57
    · have hv : c40V c.toNat = [c.toNat - 44] := by unfold c40V; rw [if_neg h1, if_pos h2]
      obtain ⟨m, hm⟩ : ∃ m, m = c.toNat - 44 := ⟨_, rfl⟩
      have e1 : (c.toNat : Int) - 48 + 4 = (m : Int) := by omega
      have hdg : isDg c = true := by simp [isDg]; omega
      rw [← hm] at hv
      clear hm h1
      rw [hv]
      clear hv
      go_enter Tryd.func42, Tryd.ntmps42
      go_wp2_with fail
      refine (dmDigit_any c _).mono ?_
      rintro e w ⟨rfl, rfl⟩
      rw [hdg]
      go_wp2_with fail
      go_ret
      exact ⟨_, rfl, rd1 w m, bal (brf w) _⟩
    · have hdg : isDg c = false := by
        unfold isDg
        rw [Bool.and_eq_false_iff]
        by_cases h9 : 48 ≤ c.toNat
        · exact .inr (decide_eq_false (by omega))
        · exact .inl (decide_eq_false h9)
      by_cases h3 : c.toNat < 32
      · have hv : c40V c.toNat = [0, c.toNat] := by unfold c40V; rw [if_neg h1, if_neg h2, if_pos h3]
        clear h1 h2
        rw [hv]
        clear hv
        go_enter Tryd.func42, Tryd.ntmps42
        go_wp2_with fail
        refine (dmDigit_any c _).mono ?_
        rintro e w ⟨rfl, rfl⟩
        rw [hdg]
        go_wp2_with fail
        go_ret
        exact ⟨_, rfl, rd2 w 0 c.toNat, bal (brf w) _⟩
      · by_cases h4 : c.toNat ≤ 47
        · have hv : c40V c.toNat = [1, c.toNat - 33] := by unfold c40V; rw [if_neg h1, if_neg h2, if_neg h3, if_pos h4]
          obtain ⟨m, hm⟩ : ∃ m, m = c.toNat - 33 := ⟨_, rfl⟩
          have e1 : (c.toNat : Int) - 33 = (m : Int) := by omega
          rw [← hm] at hv
          clear hm h1 h2
          rw [hv]
          clear hv
          go_enter Tryd.func42, Tryd.ntmps42
          go_wp2_with fail
          refine (dmDigit_any c _).mono ?_
          rintro e w ⟨rfl, rfl⟩
          rw [hdg]
          go_wp2_with fail
          go_ret
          exact ⟨_, rfl, rd2 w 1 m, bal (brf w) _⟩
        · by_cases h5 : c.toNat ≤ 64
          · have hv : c40V c.toNat = [1, c.toNat - 43] := by unfold c40V; rw [if_neg h1, if_neg h2, if_neg h3, if_neg h4, if_pos h5]
            obtain ⟨m, hm⟩ : ∃ m, m = c.toNat - 43 := ⟨_, rfl⟩
            have e1 : (c.toNat : Int) - 58 + 15 = (m : Int) := by omega
            rw [← hm] at hv
            clear hm h1 h2
            rw [hv]
            clear hv
            go_enter Tryd.func42, Tryd.ntmps42
            go_wp2_with fail
            refine (dmDigit_any c _).mono ?_
            rintro e w ⟨rfl, rfl⟩
            rw [hdg]
            go_wp2_with fail
            go_ret
            exact ⟨_, rfl, rd2 w 1 m, bal (brf w) _⟩
          · by_cases h6 : c.toNat ≤ 90
            · have hv : c40V c.toNat = [c.toNat - 51] := by unfold c40V; rw [if_neg h1, if_neg h2, if_neg h3, if_neg h4, if_neg h5, if_pos h6]
              obtain ⟨m, hm⟩ : ∃ m, m = c.toNat - 51 := ⟨_, rfl⟩
              have e1 : (c.toNat : Int) - 65 + 14 = (m : Int) := by omega
              rw [← hm] at hv
              clear hm h1 h2
              rw [hv]
              clear hv
              go_enter Tryd.func42, Tryd.ntmps42
              go_wp2_with fail
              refine (dmDigit_any c _).mono ?_
              rintro e w ⟨rfl, rfl⟩
              rw [hdg]
              go_wp2_with fail
              go_ret
              exact ⟨_, rfl, rd1 w m, bal (brf w) _⟩
            · by_cases h7 : c.toNat ≤ 95
              · have hv : c40V c.toNat = [1, c.toNat - 69] := by unfold c40V; rw [if_neg h1, if_neg h2, if_neg h3, if_neg h4, if_neg h5, if_neg h6, if_pos h7]
                obtain ⟨m, hm⟩ : ∃ m, m = c.toNat - 69 := ⟨_, rfl⟩
                have e1 : (c.toNat : Int) - 91 + 22 = (m : Int) := by omega
                rw [← hm] at hv
                clear hm h1 h2
                rw [hv]
                clear hv
                go_enter Tryd.func42, Tryd.ntmps42
                go_wp2_with fail
                refine (dmDigit_any c _).mono ?_
                rintro e w ⟨rfl, rfl⟩
                rw [hdg]
                go_wp2_with fail
                go_ret
                exact ⟨_, rfl, rd2 w 1 m, bal (brf w) _⟩
              · have hv : c40V c.toNat = [2, c.toNat - 96] := by unfold c40V; rw [if_neg h1, if_neg h2, if_neg h3, if_neg h4, if_neg h5, if_neg h6, if_neg h7]
                obtain ⟨m, hm⟩ : ∃ m, m = c.toNat - 96 := ⟨_, rfl⟩
                have e1 : (c.toNat : Int) - 96 = (m : Int) := by omega
                rw [← hm] at hv
                clear hm h1 h2
                by_cases h97 : 97 ≤ (c.toNat : Int)
                · by_cases h122 : (c.toNat : Int) ≤ 122
                  · rw [hv]
                    clear hv
                    go_enter Tryd.func42, Tryd.ntmps42
                    go_wp2_with fail
                    refine (dmDigit_any c _).mono ?_
                    rintro e w ⟨rfl, rfl⟩
                    rw [hdg]
                    go_wp2_with fail
                    go_ret
                    exact ⟨_, rfl, rd2 w 2 m, bal (brf w) _⟩
                  · rw [hv]
                    clear hv
                    go_enter Tryd.func42, Tryd.ntmps42
                    go_wp2_with fail
                    refine (dmDigit_any c _).mono ?_
                    rintro e w ⟨rfl, rfl⟩
                    rw [hdg]
                    go_wp2_with fail
                    go_ret
                    exact ⟨_, rfl, rd2 w 2 m, bal (brf w) _⟩
                · rw [hv]
                  clear hv
                  go_enter Tryd.func42, Tryd.ntmps42
                  go_wp2_with fail
                  refine (dmDigit_any c _).mono ?_
                  rintro e w ⟨rfl, rfl⟩
                  rw [hdg]
                  go_wp2_with fail
                  go_ret
                  exact ⟨_, rfl, rd2 w 2 m, bal (brf w) _⟩
theorem tripW_drop (l : List Nat) (i : Nat) (h : i + 2 < l.length) : tripW (l.drop i) = ((1600 * l.getD i 0 + 40 * l.getD (i + 1) 0 + l.getD (i + 2) 0 + 1) / 256) :: ((1600 * l.getD i 0 + 40 * l.getD (i + 1) 0 + l.getD (i + 2) 0 + 1) % 256) :: tripW (l.drop (i + 3)) := by
  rw [three_drop l i (by omega), three_drop l (i + 1) (by omega), three_drop l (i + 2) h]
  rfl
set_option maxRecDepth 100000 in
set_option maxHeartbeats 4000000 in
theorem triples_any (v : Value) (l : List Nat) (w : World) (hv : Rd w w.heap.size v (nv l)) (hl : l.length ≤ 1000000) (hb : ∀ x ∈ l, x < 40) (h3 : l.length % 3 = 0) :
    Calls Tryd.prog 43 #[v] w fun e w' => ∃ v', e = .returned v' ∧ RdT w' 5 v' (wv8 (tripW l)) ∧ Below w.heap.size w w' := by
  obtain ⟨i0, hi0, hz0, hz1, hz2⟩ := info_parts info_u8P
  obtain ⟨N, hN⟩ : ∃ N, N = l.length := ⟨_, rfl⟩
  have HB40 := Lib.hid hb
  obtain ⟨A, cap, rfl, h1, h2, hcl⟩ := hv
  have hN2 : (nv l).length = N := by rw [nv_len, hN]
  rw [hN2] at h1 hcl ⊢
  have hlN : N ≤ 1000000 ∧ N % 3 = 0 := by omega
  unfold maxLen at h2
  have HCL := Lib.hid hcl
  have HNN := Lib.hid hN
  clear hcl hb hN hN2 hl h3
  go_enter Tryd.func43, Tryd.ntmps43
  go_wp2_with fail
  go_loopw [3, 4] (fun ov iv wr => ∃ (i n : Nat) (out : List Nat), i ≤ N ∧ i % 3 = 0 ∧ iv = .int .i64 (i : Int) ∧ n ≤ i ∧ Hid (wr.ownsRow w.heap.size 5 1 ov n (wv8 out)) ∧ Hid (out ++ tripW (l.drop i) = tripW l) ∧ Hid (Below w.heap.size w wr)) (fun _ iv _ => N + 3 - (intOf iv).toNat)
  case atStart => exact ⟨0, 0, [], Nat.zero_le _, rfl, rfl, Nat.le_refl _, Lib.hid (own_nil _ _ _), Lib.hid rfl, Lib.hid (brf w)⟩
  case round =>
    obtain ⟨i, n, out, hi, hi3, rfl, hni, HOr, HE, HBr⟩ := hrel
    rename World => wr
    by_cases hlt : i + 2 < N
    · obtain ⟨b, off, rfl, hbl, hc⟩ := HCL.out (by omega)
      have HT := Lib.hid (tripW_drop l i (by rw [← HNN.out]; exact hlt))
      have hcc : ∀ j, j < N → wr.cell? ⟨b, off + j, none⟩ = some (.int .i64 ((l.getD j 0 : Nat) : Int)) := fun j hj => (below_cells HBr.out b _ hbl).trans (hc j _ (nv_at l j (by rw [← HNN.out]; exact hj)))
      have c0 := hcc i (by omega)
      have c1 := hcc (i + 1) (by omega)
      have c2 := hcc (i + 2) (by omega)
      have hA : ∀ j, j < N → l.getD j 0 < 40 := fun j hj => by
        rw [List.getD, List.getElem?_eq_getElem (by rw [← HNN.out]; exact hj)]
        exact HB40.out _ (List.getElem_mem _)
      have hA0 := hA i (by omega)
      have hA1 := hA (i + 1) (by omega)
      have hA2 := hA (i + 2) hlt
      clear hcc hA hc hbl
      generalize l.getD i 0 = x0 at *
      generalize l.getD (i + 1) 0 = y0 at *
      generalize l.getD (i + 2) 0 = z0 at *
      have hroom : i + 3 ≤ N ∧ n + 2 ≤ 100000000 ∧ n + 2 ≤ i + 3 ∧ (i + 3) % 3 = 0 := by omega
      have hiN : i < N := by omega
      have hiN2 : (i : Int) < (N : Int) := by omega
      obtain ⟨T1, hT1⟩ : ∃ x, x = 1600 * x0 := ⟨_, rfl⟩
      obtain ⟨T2, hT2⟩ : ∃ x, x = 40 * y0 := ⟨_, rfl⟩
      obtain ⟨S1, hS1⟩ : ∃ x, x = T1 + T2 := ⟨_, rfl⟩
      obtain ⟨S2, hS2⟩ : ∃ x, x = S1 + z0 := ⟨_, rfl⟩
      obtain ⟨M, hM⟩ : ∃ x, x = S2 + 1 := ⟨_, rfl⟩
      have hMM : 1600 * x0 + 40 * y0 + z0 + 1 = M := by omega
      rw [hMM] at HT
      have e1 : (1600 : Int) * (x0 : Int) = (T1 : Int) := by omega
      have e2 : (40 : Int) * (y0 : Int) = (T2 : Int) := by omega
      have e3 : (T1 : Int) + (T2 : Int) = (S1 : Int) := by omega
      have e4 : (S1 : Int) + (z0 : Int) = (S2 : Int) := by omega
      have e5 : (S2 : Int) + 1 = (M : Int) := by omega
      have hM0 : M ≤ 64000 ∧ T1 < 65536 ∧ T2 < 65536 ∧ S1 < 65536 ∧ S2 < 65536 := by omega
      obtain ⟨p, hp⟩ : ∃ x, x = M / 256 := ⟨_, rfl⟩
      obtain ⟨q, hq⟩ : ∃ x, x = M % 256 := ⟨_, rfl⟩
      rw [← hp, ← hq] at HT
      have d1 : Int.tdiv (M : Int) 256 = (p : Int) := by rw [Int.tdiv_eq_ediv_of_nonneg (by omega)]; omega
      have d2 : (M : Int) / 256 = (p : Int) := by omega
      have d3 : Int.tmod (M : Int) 256 = (q : Int) := by rw [Int.tmod_eq_emod_of_nonneg (by omega)]; omega
      have d4 : (M : Int) % 256 = (q : Int) := by omega
      have hpq : p < 256 ∧ q < 256 := by omega
      have w1 : IntKind.i64.wrap (T1 : Int) = (T1 : Int) := by rw [IntKind.wrap_i64]; omega
      have w2 : IntKind.i64.wrap (T2 : Int) = (T2 : Int) := by rw [IntKind.wrap_i64]; omega
      have w3 : IntKind.i64.wrap (S1 : Int) = (S1 : Int) := by rw [IntKind.wrap_i64]; omega
      have w4 : IntKind.i64.wrap (S2 : Int) = (S2 : Int) := by rw [IntKind.wrap_i64]; omega
      have w5 : IntKind.i64.wrap (M : Int) = (M : Int) := by rw [IntKind.wrap_i64]; omega
      have x1 : IntKind.i64.wrap ((i : Int) + 1) = (i : Int) + 1 := by rw [IntKind.wrap_i64]; omega
      have x2 : 0 ≤ (i : Int) + 1 := by omega
      have x3 : (i : Int) + 1 < N := by omega
      have x4 : ((i : Int) + 1).toNat = i + 1 := by omega
      have x5 : IntKind.i64.wrap ((i : Int) + 2) = (i : Int) + 2 := by rw [IntKind.wrap_i64]; omega
      have x6 : 0 ≤ (i : Int) + 2 := by omega
      have x7 : (i : Int) + 2 < N := by omega
      have x8 : ((i : Int) + 2).toNat = i + 2 := by omega
      clear hT1 hT2 hS1 hS2 hM hMM hp hq
      go_wp2_with fail
      refine Can.wp_region_can (fun w' => w'.cell? ⟨b, off + i, none⟩ = some (.int .i64 x0) ∧ w'.cell? ⟨b, off + (i + 1), none⟩ = some (.int .i64 y0) ∧ w'.cell? ⟨b, off + (i + 2), none⟩ = some (.int .i64 z0)) 999 [0, 1, 2, 3, 4, 5, 6, 7, 8, 9, 10, 11, 12, 13, 14, 15, 16, 17, 18, 19] (by kernel_rfl) (by kernel_rfl) (fun _ _ d _ _ h => by cases d <;> exact h) ⟨c0, c1, c2⟩ (fun hHeld => ?_)
      repeat (refine Can.can_pure (v := ?_) rfl rfl (Or.inl ⟨by rfl, ?_⟩) ?_; rotate_left; (focus ((intro w hSw); (try dsimp only at hSw); go_simp; (try with_reducible rfl))); (try simp only [Act.put, List.getElem_toArray, List.getElem_cons_succ, List.getElem_cons_zero, List.setIfInBounds_toArray, List.set_cons_zero, List.set_cons_succ]))
      refine Can.can_done ?_
      have HOd : Hid (wr.drew.ownsRow w.heap.size 5 1 u3 n (wv8 out)) := Lib.hid HOr.out
      have HBd : Hid (Below w.heap.size w wr.drew) := Lib.hid HBr.out.drew
      clear hHeld c0 c1 c2 w1 w2 w3 w4 w5 HOr HBr e1 e2 e3 e4 e5
      (try clear x1 x5)
      generalize World.drew wr = wd at *
      go_wp2_with (with_reducible refine stop_at (o := ⟨some 40, _, _, _, _, _⟩) ?_)
      refine Lib.hid ?_
      have hob := own_up HOd.out (bal (brf wd) (.cells #[.int .u8 (p : Int), .int .u8 (q : Int)] 5))
      refine list_app_rd _ rfl _ _ _ rfl w.heap.size 5 i0 _ 1 Tryd.underlying27 hi0 hz0 hz1 hz2 rfl _ n _ rfl hob _ _ [.int .u8 (p : Int), .int .u8 (q : Int)] rfl (Rd.of_blk (t := 5) (Blk.fresh wd _ _) rfl (Nat.le_refl _) (by decide)) (fun u hu => by simp at hu; rcases hu with rfl | rfl <;> rfl) (by simp only [List.length_cons, List.length_nil]; unfold maxLen; omega) (by simp only [List.length_cons, List.length_nil]; omega) (by have := HBd.out.size; simp; omega) ?_
      intro v6 w6 ho1 hg1
      have HB6 : Hid (Below w.heap.size w w6) := Lib.hid (below_grown (bal HBd.out _) hg1 hob (by have := HBd.out.size; simp; omega))
      have HO6 : Hid (w6.ownsRow w.heap.size 5 1 v6 (n + 2) (wv8 (out ++ [p, q]))) := Lib.hid (by rw [wv8_app]; exact ho1)
      have HE6 : Hid (out ++ [p, q] ++ tripW (l.drop (i + 3)) = tripW l) := Lib.hid (by rw [List.append_assoc, ← HE.out, HT.out]; rfl)
      clear ho1 hg1 hob HOd HBd HE HT d1 d2 d3 d4
      go_wp2_with fail
      go_roundw
      case rel => exact ⟨i + 3, n + 2, _, hroom.1, hroom.2.2.2, by go_num, hroom.2.2.1, HO6, HE6, HB6⟩
      case measure => simp [intOf]; omega
    · have hie : tripW (l.drop i) = [] := by
        rw [List.drop_eq_nil_of_le (by rw [← HNN.out]; omega)]; rfl
      have HOF : Hid (RdT wr 5 u3 (wv8 (tripW l))) := Lib.hid (by
        have h9 := HE.out
        rw [hie, List.append_nil] at h9
        rw [← h9]; exact RdT.of_own HOr.out)
      clear hie HOr HE
      go_wp2_with fail
      go_ret
      exact ⟨_, rfl, HOF.out, HBr.out⟩
end Go.Proofs.YtjpcajecmfhppaaDoor
