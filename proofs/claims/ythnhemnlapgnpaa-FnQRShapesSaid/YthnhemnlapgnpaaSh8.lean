/-
  WALKS: laws.qrGroups: sizes as runs.
-/
import Derived.Test.YthnhemnlapgnpaaSh7
namespace Go.Proofs.Ythnhemnlapgnpaa
open Go.RowKit

theorem cellsE_len (g : List (Nat × Nat)) : (cellsE g).length = g.length * 2 := by
  induction g with
  | nil => rfl
  | cons p r ih => have e : cellsE (p :: r) = [Value.int .i64 ((p.1 : Nat) : Int), Value.int .i64 ((p.2 : Nat) : Int)] ++ cellsE r := rfl
                   rw [e, List.length_append, ih]; simp; omega
theorem cellsE_last (g : List (Nat × Nat)) (k d x : Nat) : (cellsE (g ++ [(k, d)])).set (g.length * 2) (.int .i64 (x : Int)) = cellsE (g ++ [(x, d)]) := by
  rw [cellsE_snoc, cellsE_snoc, ← cellsE_len, List.set_append_right _ _ (Nat.le_refl _), Nat.sub_self]
  rfl
theorem cellsE_two (g : List (Nat × Nat)) (k d : Nat) : (cellsE (g ++ [(k, d)]))[g.length * 2]? = some (.int .i64 (k : Int)) ∧ (cellsE (g ++ [(k, d)]))[g.length * 2 + 1]? = some (.int .i64 (d : Int)) := by
  rw [cellsE_snoc, ← cellsE_len]
  refine ⟨by rw [List.getElem?_append_right (Nat.le_refl _), Nat.sub_self]; rfl, by rw [List.getElem?_append_right (by omega), Nat.add_sub_cancel_left]; rfl⟩
theorem addRun_nil (x : Nat) : addRun [] x = [(1, x)] := rfl
theorem addRun_same (g : List (Nat × Nat)) (k x : Nat) : addRun (g ++ [(k, x)]) x = g ++ [(k + 1, x)] := by simp [addRun]
theorem addRun_other (g : List (Nat × Nat)) (k d x : Nat) (h : d ≠ x) : addRun (g ++ [(k, d)]) x = (g ++ [(k, d)]) ++ [(1, x)] := by simp [addRun, h]
theorem fold_succ (xs : List Nat) (i : Nat) (h : i < xs.length) : (xs.take (i + 1)).foldl addRun [] = addRun ((xs.take i).foldl addRun []) xs[i] := by
  rw [List.take_succ_eq_append_getElem h, List.foldl_append]; rfl
theorem own_nilform {w : World} {base : Nat} {e : TypeId} {v : Value} (h : w.ownsRow base e 2 v 0 []) : ∃ A cap, v = .slice A 0 cap := by
  obtain ⟨_, ⟨rfl, _⟩ | ⟨g, cap, _, rfl, _⟩⟩ := h
  · exact ⟨_, _, rfl⟩
  · exact ⟨_, _, rfl⟩
theorem own_someform {w : World} {base n : Nat} {e : TypeId} {v : Value} {xs : List Value} (h : w.ownsRow base e 2 v (n + 1) xs) : ∃ g cap, v = .slice (some ⟨g, 0, none⟩) (n + 1) cap ∧ n + 1 ≤ cap ∧ cap ≤ 9223372036854775807 ∧ base ≤ g ∧ w.frozen? ⟨g, n * 2, none⟩ = false := by
  obtain ⟨_, ⟨_, h2⟩ | ⟨g, cap, cur, rfl, hb, hg, hn, hc, _⟩⟩ := h
  · cases h2
  · exact ⟨_, _, rfl, hn, by unfold maxLen at hc; omega, hb, Blk.frozen (w := w) (g := g) (t := e) (cs := cur) hg _⟩
theorem addr_add' (b off i : Nat) : (⟨b, off, none⟩ : Addr).add i = ⟨b, off + i, none⟩ := by unfold Addr.add; split <;> simp_all
set_option maxRecDepth 100000 in
set_option maxHeartbeats 2000000 in
theorem groups_any (v : Value) (xs : List Nat) (w : World) (hv : RdT w 3 v (nvl xs)) (hs : xs.length ≤ 1000) : Calls Try.prog 33 #[v] w fun e w' => ∃ s, e = .returned s ∧ w'.ownsRow w.heap.size 69 2 s (runsL xs).length (cellsE (runsL xs)) ∧ Below w.heap.size w w' := by
  have HV := Lib.hid hv.rd
  obtain ⟨A, c, rfl, k1, k2, -⟩ := hv
  rw [nvl_len] at *
  unfold maxLen at k2
  obtain ⟨i0, hi0, hz0, hz1, hz2⟩ := info_two info_pair
  go_enter Try.func33, Try.ntmps33
  go_wp2_with fail
  go_loopw [3, 9] (fun ov iv wr => ∃ (i : Nat) (g : List (Nat × Nat)), i ≤ xs.length ∧ iv = .int .i64 i ∧ g.length ≤ i ∧ Hid (g = (xs.take i).foldl addRun []) ∧ Hid (∀ p ∈ g, p.1 ≤ i) ∧ Hid (wr.ownsRow w.heap.size 69 2 ov g.length (cellsE g)) ∧ Hid (Below w.heap.size w wr)) (fun _ iv _ => xs.length - (intOf iv).toNat)
  case atStart => exact ⟨0, [], Nat.zero_le _, rfl, Nat.le_refl _, Lib.hid rfl, Lib.hid (fun p hp => by cases hp), Lib.hid (own_nil2 _ _ _), Lib.hid (brf w)⟩
  case round =>
    obtain ⟨i, g, hi, rfl, hgl, HG, HP, HO, HB⟩ := hrel
    by_cases hlt : i < xs.length
    · obtain ⟨b1, o1, x1, rfl, hb1, hx1, hc1⟩ := HV.out.at_ hlt
      rw [nvl_at xs i hlt] at hx1
      injection hx1 with hx1
      subst hx1
      have r1 := cell_up hc1 HB.out
      have hfs := fold_succ xs i hlt
      rw [← HG.out] at hfs
      generalize xs[i] = x at *
      have HFS := Lib.hid hfs
      have hsz := HB.out.size
      clear hc1 hfs HG
      rcases List.eq_nil_or_concat g with hg | ⟨g', p, hg⟩
      · subst hg
        obtain ⟨Ao, co, rfl⟩ := own_nilform HO.out
        simp only [List.length_nil] at HO ⊢
        go_wp2_with (with_reducible refine stop_at (o := ⟨some 40, _, _, _, _, _⟩) ?_)
        refine Lib.hid ?_
        have hba := bal (brf wr) (Obj.cells #[Value.int .i64 1, Value.int .i64 (x : Int)] 69)
        refine list_app2 rfl _ _ 58 rfl w.heap.size 69 i0 _ 16 Try.underlying58 hi0 hz0 hz1 hz2 rfl _ 0 (cellsE []) rfl (own_up HO.out hba) wr.heap.size (.int .i64 1) (.int .i64 x) rfl (Blk.fresh _ _ _) rfl rfl (by unfold maxLen; omega) (by omega) (Nat.le_trans hsz hba.size) ?_
        intro v5 w5 ho5 hg5
        have HB5 : Hid (Below w.heap.size w w5) := Lib.hid (below_grown (HB.out.alloc hsz _) hg5 (own_up HO.out hba) (Nat.le_trans hsz hba.size))
        have HO5 : Hid (w5.ownsRow w.heap.size 69 2 v5 ([] ++ [(1, x)]).length (cellsE ([] ++ [(1, x)]))) := Lib.hid (by
          have hl : ([] ++ [(1, x)]).length = 0 + 1 := rfl
          rw [hl, cellsE_snoc]; exact ho5)
        have HP5 : Hid (∀ p ∈ [] ++ [(1, x)], p.1 ≤ i + 1) := Lib.hid (fun p hp => by
          rcases List.mem_append.1 hp with hp | hp
          · have := HP.out p hp; omega
          · simp only [List.mem_cons, List.not_mem_nil, or_false] at hp
            subst hp
            show 1 ≤ i + 1
            omega)
        have HG5 : Hid ([] ++ [(1, x)] = (xs.take (i + 1)).foldl addRun []) := Lib.hid HFS.out.symm
        have hl5 : ([] ++ [(1, x)]).length ≤ i + 1 := by
          have hl : ([] ++ [(1, x)]).length = 0 + 1 := rfl
          rw [hl]; omega
        generalize [] ++ [(1, x)] = g5 at *
        clear ho5 hg5 hba HO HB HP HFS r1
        go_wp2
        go_roundw
        case rel => exact ⟨i + 1, g5, by omega, by go_num, hl5, HG5, HP5, HO5, HB5⟩
        case measure => simp [intOf]; omega
      · rw [List.concat_eq_append] at hg
        subst hg
        obtain ⟨k, d⟩ := p
        have hgl2 : g'.length + 1 ≤ i := by simpa using hgl
        have hlen : (g' ++ [(k, d)]).length = g'.length + 1 := by simp
        rw [hlen] at HO
        obtain ⟨c2k, c2d⟩ := cellsE_two g' k d
        obtain ⟨gb, cap, rfl, m1, m2, m3, m4⟩ := own_someform HO.out
        have hcs := HO.out.cells (g := gb) rfl
        have r2 := hcs _ _ c2k
        have r3 := hcs _ _ c2d
        rw [addr_add', Nat.zero_add] at r2 r3
        have hpk : k ≤ i := HP.out (k, d) (by simp)
        have HP' : Hid (∀ p ∈ g', p.1 ≤ i) := Lib.hid (fun p hp => HP.out p (by simp [hp]))
        have hset := cellsE_last g' k d (k + 1)
        obtain ⟨q, hq⟩ : ∃ q, q = g'.length := ⟨_, rfl⟩
        rw [← hq] at HO r2 r3 m1 m4 hset hgl2 ⊢
        have HQ := Lib.hid hq
        have HSE := Lib.hid hset
        obtain ⟨G, hG⟩ : ∃ G, G = q + 1 := ⟨_, rfl⟩
        rw [← hG] at HO m1 hgl2 ⊢
        have eG : (G : Int) - 1 = (q : Int) := by omega
        have wq : IntKind.i64.wrap (q : Int) = (q : Int) := by rw [IntKind.wrap_i64]; omega
        have hqG : q < G := by omega
        have hG0 : (0 : Int) < (G : Int) := by omega
        have HGG := Lib.hid hG
        clear hlen hgl c2k c2d hcs hset hq hG
        by_cases hdx : d = x
        · subst hdx
          rw [addRun_same] at HFS
          have HOn := own_set2 HO.out (j := q * 2) (.int .i64 ((k : Int) + 1))
          have wk : IntKind.i64.wrap ((k : Int) + 1) = (k : Int) + 1 := by rw [IntKind.wrap_i64]; omega
          have HO5 : Hid (World.ownsRow (wr.setCell ⟨gb, q * 2, none⟩ (.int .i64 ((k : Int) + 1))).drew w.heap.size 69 2 (.slice (some ⟨gb, 0, none⟩) G cap) (g' ++ [(k + 1, d)]).length (cellsE (g' ++ [(k + 1, d)]))) := Lib.hid (by
            have hl : (g' ++ [(k + 1, d)]).length = G := by rw [List.length_append, ← HQ.out, HGG.out]; rfl
            rw [hl, ← HSE.out]
            exact HOn)
          have HB5 := Lib.hid ((HB.out.setCell (p := ⟨gb, q * 2, none⟩) m3 (.int .i64 ((k : Int) + 1))).drew)
          have HP5 : Hid (∀ p ∈ g' ++ [(k + 1, d)], p.1 ≤ i + 1) := Lib.hid (fun p hp => by
            rcases List.mem_append.1 hp with hp | hp
            · have := HP'.out p hp; omega
            · simp only [List.mem_cons, List.not_mem_nil, or_false] at hp
              subst hp
              show k + 1 ≤ i + 1
              omega)
          have HG5 : Hid (g' ++ [(k + 1, d)] = (xs.take (i + 1)).foldl addRun []) := Lib.hid HFS.out.symm
          have hl5 : (g' ++ [(k + 1, d)]).length ≤ i + 1 := by
            rw [List.length_append, ← HQ.out]
            show q + 1 ≤ i + 1
            omega
          generalize g' ++ [(k + 1, d)] = g5 at *
          clear HOn HSE HFS
          go_wp2_with fail
          refine Can.wp_region_can (fun w' => w'.cell? ⟨gb, q * 2, none⟩ = some (.int .i64 k) ∧ w'.frozen? ⟨gb, q * 2, none⟩ = false) 9 [0, 1, 2, 3, 4, 5, 6, 7, 8, 9] (by kernel_rfl) (by kernel_rfl) (fun _ _ d _ _ h => by cases d <;> exact h) ⟨r2, m4⟩ (fun hHeld => ?_)
          repeat (refine Can.can_pure (v := ?_) rfl rfl (Or.inl ⟨by rfl, ?_⟩) ?_; rotate_left; (focus ((intro w hSw); (try dsimp only at hSw); go_simp; (try with_reducible rfl))); (try simp only [Act.put, List.getElem_toArray, List.getElem_cons_succ, List.getElem_cons_zero, List.setIfInBounds_toArray, List.set_cons_zero, List.set_cons_succ]))
          have f1 := hHeld.2
          refine Can.can_tail rfl rfl (by rfl) (fun K hK => ?_)
          go_simp
          refine hK.out _ _ ?_
          clear hK K
          clear hHeld f1 r1 r2 r3 m4 HO HB
          go_wp2
          go_roundw
          case rel => exact ⟨i + 1, g5, by omega, by go_num, hl5, HG5, HP5, HO5, HB5⟩
          case measure => simp [intOf]; omega
        · have hdx2 : ¬ (d : Int) = (x : Int) := by omega
          rw [addRun_other _ _ _ _ hdx] at HFS
          go_wp2_with (with_reducible refine stop_at (o := ⟨some 40, _, _, _, _, _⟩) ?_)
          refine Lib.hid ?_
          have hba := bal (brf wr) (Obj.cells #[Value.int .i64 1, Value.int .i64 (x : Int)] 69)
          refine list_app2 rfl _ _ 58 rfl w.heap.size 69 i0 _ 16 Try.underlying58 hi0 hz0 hz1 hz2 rfl _ G (cellsE (g' ++ [(k, d)])) rfl (own_up HO.out hba) wr.heap.size (.int .i64 1) (.int .i64 x) rfl (Blk.fresh _ _ _) rfl rfl (by unfold maxLen; omega) (by omega) (Nat.le_trans hsz hba.size) ?_
          intro v5 w5 ho5 hg5
          have HB5 : Hid (Below w.heap.size w w5) := Lib.hid (below_grown (HB.out.alloc hsz _) hg5 (own_up HO.out hba) (Nat.le_trans hsz hba.size))
          have HO5 : Hid (w5.ownsRow w.heap.size 69 2 v5 ((g' ++ [(k, d)]) ++ [(1, x)]).length (cellsE ((g' ++ [(k, d)]) ++ [(1, x)]))) := Lib.hid (by
            have hl : ((g' ++ [(k, d)]) ++ [(1, x)]).length = G + 1 := (by rw [List.length_append, List.length_append, ← HQ.out, HGG.out]; rfl)
            rw [hl, cellsE_snoc]; exact ho5)
          have HP5 : Hid (∀ p ∈ (g' ++ [(k, d)]) ++ [(1, x)], p.1 ≤ i + 1) := Lib.hid (fun p hp => by
            rcases List.mem_append.1 hp with hp | hp
            · have := HP.out p hp; omega
            · simp only [List.mem_cons, List.not_mem_nil, or_false] at hp
              subst hp
              show 1 ≤ i + 1
              omega)
          have HG5 : Hid ((g' ++ [(k, d)]) ++ [(1, x)] = (xs.take (i + 1)).foldl addRun []) := Lib.hid HFS.out.symm
          have hl5 : ((g' ++ [(k, d)]) ++ [(1, x)]).length ≤ i + 1 := by
            have hl : ((g' ++ [(k, d)]) ++ [(1, x)]).length = G + 1 := (by rw [List.length_append, List.length_append, ← HQ.out, HGG.out]; rfl)
            rw [hl]; omega
          generalize (g' ++ [(k, d)]) ++ [(1, x)] = g5 at *
          clear ho5 hg5 hba HO HB HP HFS r1
          go_wp2
          go_roundw
          case rel => exact ⟨i + 1, g5, by omega, by go_num, hl5, HG5, HP5, HO5, HB5⟩
          case measure => simp [intOf]; omega
    · obtain rfl : i = xs.length := by omega
      have hfin : g = runsL xs := by rw [HG.out, List.take_length]; rfl
      have HO2 : Hid (wr.ownsRow w.heap.size 69 2 u3 (runsL xs).length (cellsE (runsL xs))) := Lib.hid (by rw [← hfin]; exact HO.out)
      clear hfin HG HP HO hgl
      go_wp2
      go_ret
      exact ⟨_, rfl, HO2.out, HB.out⟩
end Go.Proofs.Ythnhemnlapgnpaa
