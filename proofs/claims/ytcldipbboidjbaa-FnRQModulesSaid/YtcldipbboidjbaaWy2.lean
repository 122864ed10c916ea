/-
  WALK: spec.QRModules.
-/
import Derived.Test.YtcldipbboidjbaaWy1
import Derived.Test.YtcldipbboidjbaaQp7
namespace Go.Proofs.Ytcldipbboidjbaa
open Go.RowKit

/-- The modules when the first k places of the way are laid. -/
def modK (v l m : Nat) (bits : List Bool) : Nat → Nat → Nat → Bool
  | 0 => patB v l m
  | k + 1 => fun x y => if x = ((wayL v).getD k (0, 0)).2 ∧ y = ((wayL v).getD k (0, 0)).1 then (bits.getD k false != maskB m ((wayL v).getD k (0, 0)).2 ((wayL v).getD k (0, 0)).1) else modK v l m bits k x y
def modF (v l m : Nat) (bits : List Bool) : Nat → Nat → Bool := modK v l m bits (wayL v).length
theorem rgt_lt (n k d : Nat) (h : 0 < n) : rgt n k - d < n := by unfold rgt; split <;> omega
theorem rowW_lt (n k i : Nat) (h : i < n) : rowW n k i < n := by unfold rowW; split <;> omega
theorem tot_pos_all : ((List.range 40).all fun v => decide (0 < totOf (v + 1))) = true := by kernel_rfl
theorem wayL_pos {v : Nat} (h1 : 1 ≤ v) (h2 : v ≤ 40) : 0 < (wayL v).length := by
  have h := List.all_eq_true.1 tot_pos_all (v - 1) (List.mem_range.2 (by omega))
  rw [show v - 1 + 1 = v by omega] at h
  have h3 := of_decide_eq_true h
  have h4 := wayL_len h1 h2
  omega
theorem way_in (v t : Nat) (p : Nat × Nat) (hp : p ∈ way v t) : p.1 < 17 + 4 * v ∧ p.2 < 17 + 4 * v ∧ givB v p.2 p.1 = false := by
  unfold way at hp
  rw [List.mem_filter, List.mem_map] at hp
  obtain ⟨⟨s, hs, rfl⟩, hg⟩ := hp
  rw [List.mem_range] at hs
  unfold ngB at hg
  have hg2 : givB v (plc (17 + 4 * v) s).2 (plc (17 + 4 * v) s).1 = false := by simpa using hg
  exact ⟨rowW_lt _ _ _ (Nat.mod_lt _ (by omega)), rgt_lt _ _ _ (by omega), hg2⟩
theorem wayL_in (v k : Nat) (hk : k < (wayL v).length) : ((wayL v).getD k (0, 0)).1 < 17 + 4 * v ∧ ((wayL v).getD k (0, 0)).2 < 17 + 4 * v ∧ givB v ((wayL v).getD k (0, 0)).2 ((wayL v).getD k (0, 0)).1 = false := by
  rw [List.getD, List.getElem?_eq_getElem hk, Option.getD_some]
  exact way_in v _ _ (List.getElem_mem hk)
/-- A place of patterns stays as it is. -/
theorem modK_given (v l m : Nat) (bits : List Bool) (x y : Nat) (hg : givB v x y = true) : ∀ k, k ≤ (wayL v).length → modK v l m bits k x y = patB v l m x y
  | 0, _ => rfl
  | k + 1, h => by
    unfold modK
    have h1 := wayL_in v k (by omega)
    rw [if_neg, modK_given v l m bits x y hg k (by omega)]
    rintro ⟨rfl, rfl⟩
    rw [hg] at h1
    cases h1.2.2
theorem wayL_nodup (v : Nat) (h1 : 1 ≤ v) : List.Pairwise (fun a b : Nat × Nat => a ≠ b) (wayL v) := by
  unfold wayL way
  refine List.Pairwise.filter _ ?_
  rw [List.pairwise_iff_getElem]
  intro i j hi hj hij
  rw [List.length_map, List.length_range] at hi hj
  rw [List.getElem_map, List.getElem_map, List.getElem_range, List.getElem_range]
  intro h2
  have he : wayE v = (8 + 2 * v) * (17 + 4 * v) * 2 := by
    unfold wayE
    rw [show (17 + 4 * v - 1) / 2 = 8 + 2 * v by omega]
  rw [he] at hi hj
  have := plc_inj (m := 8 + 2 * v) (by omega) (by omega) hi hj h2
  omega
theorem wayL_inj (v : Nat) (h1 : 1 ≤ v) (i j : Nat) (hi : i < (wayL v).length) (hj : j < (wayL v).length) (h : (wayL v).getD i (0, 0) = (wayL v).getD j (0, 0)) : i = j := by
  rw [List.getD, List.getElem?_eq_getElem hi, Option.getD_some, List.getD, List.getElem?_eq_getElem hj, Option.getD_some] at h
  have hp := List.pairwise_iff_getElem.1 (wayL_nodup v h1)
  rcases Nat.lt_trichotomy i j with h2 | h2 | h2
  · exact absurd h (hp i j hi hj h2)
  · exact h2
  · exact absurd h.symm (hp j i hj hi h2)
/-- A place of the way holds its bit. -/
theorem modK_way (v l m : Nat) (bits : List Bool) (h1 : 1 ≤ v) (j : Nat) : ∀ k, j < k → k ≤ (wayL v).length → modK v l m bits k ((wayL v).getD j (0, 0)).2 ((wayL v).getD j (0, 0)).1 = (bits.getD j false != maskB m ((wayL v).getD j (0, 0)).2 ((wayL v).getD j (0, 0)).1)
  | 0, h, _ => absurd h (Nat.not_lt_zero _)
  | k + 1, h, hk => by
    unfold modK
    by_cases hjk : j = k
    · subst hjk; rw [if_pos ⟨rfl, rfl⟩]
    · rw [if_neg, modK_way v l m bits h1 j k (by omega) (by omega)]
      rintro ⟨a, b⟩
      exact hjk (wayL_inj v h1 j k (by omega) (by omega) (Prod.ext b a))
theorem modF_way (v l m : Nat) (bits : List Bool) (h1 : 1 ≤ v) (j : Nat) (hj : j < (wayL v).length) : modF v l m bits ((wayL v).getD j (0, 0)).2 ((wayL v).getD j (0, 0)).1 = (bits.getD j false != maskB m ((wayL v).getD j (0, 0)).2 ((wayL v).getD j (0, 0)).1) :=
  modK_way v l m bits h1 j _ hj (Nat.le_refl _)
theorem modF_given (v l m : Nat) (bits : List Bool) (x y : Nat) (hg : givB v x y = true) : modF v l m bits x y = patB v l m x y := modK_given v l m bits x y hg _ (Nat.le_refl _)
attribute [local irreducible] modK
/-- A cell of another kind of block is written. -/
theorem Blk.other {w : World} {p q : Nat} {t t' : TypeId} {cs cs' : Array Value} (h : Blk w q t cs) (hp : Blk w p t' cs') (ht : t' ≠ t) (i : Nat) (u : Value) : Blk (w.setCell ⟨p, i, none⟩ u) q t cs := by
  refine h.far (fun he => ?_) u
  have he' : q = p := he
  subst he'
  unfold Blk at h hp
  rw [h] at hp
  injection hp with hp
  injection hp with _ h6
  exact ht h6.symm
set_option maxRecDepth 100000 in
set_option maxHeartbeats 4000000 in
theorem qrModules_any (s : Value) (bits : List Bool) (v l m : Nat) (w0 : World) (hs : Rd w0 w0.heap.size s (bv bits)) (h1 : 1 ≤ v) (h2 : v ≤ 40) (hl : l < 4) (hm : m < 8) :
    Calls Try.prog 6 #[s, .int .i64 v, .int .i64 l, .int .i64 m] w0 fun e w' => ∃ g bs, e = .returned (.slice (some ⟨g, 0, none⟩) (17 + 4 * v) (17 + 4 * v)) ∧ bs.length = 17 + 4 * v ∧ MkR w' g (17 + 4 * v) (17 + 4 * v) bs (modF v l m bits) ∧ w0.heap.size ≤ g ∧ Below w0.heap.size w0 w' := by
  have hpt := patterns_any v l m w0 h1 h2 hl hm
  have hwy := fun w' => qrWay_any v w' h1 h2
  have hwl : ∀ k, k < (wayL v).length → ((wayL v).getD k (0, 0)).1 < 17 + 4 * v ∧ ((wayL v).getD k (0, 0)).2 < 17 + 4 * v := fun k hk => ⟨(wayL_in v k hk).1, (wayL_in v k hk).2.1⟩
  have hK0 : modK v l m bits 0 = patB v l m := by with_unfolding_all rfl
  have hKn : modK v l m bits (wayL v).length = modF v l m bits := rfl
  have hKs : ∀ k x y, modK v l m bits (k + 1) x y = if x = ((wayL v).getD k (0, 0)).2 ∧ y = ((wayL v).getD k (0, 0)).1 then (bits.getD k false != maskB m ((wayL v).getD k (0, 0)).2 ((wayL v).getD k (0, 0)).1) else modK v l m bits k x y := fun k x y => by with_unfolding_all rfl
  have hwb : (wayL v).length ≤ 70000 := by
    refine Nat.le_trans (way_bound v _) ?_
    unfold wayE
    have h9 : (17 + 4 * v - 1) / 2 * (17 + 4 * v) ≤ 88 * 177 := Nat.mul_le_mul (by omega) (by omega)
    omega
  have hwp := wayL_pos h1 h2
  have hnn : 17 + 4 * v = 17 + 4 * v := rfl
  generalize wayL v = L at *
  generalize modF v l m bits = FF at *
  generalize hN : 17 + 4 * v = n at *
  have hn177 : n ≤ 177 := by omega
  have HWL := Lib.hid hwl; have HK0 := Lib.hid hK0; have HKn := Lib.hid hKn; have HKs := Lib.hid hKs
  generalize modK v l m bits = KK at *
  clear hwl hK0 hKn hKs hnn hN
  obtain ⟨A, cap, rfl, q1, q2, q3⟩ := hs
  rw [bv_len] at q1 q3 ⊢
  have HQ3 := Lib.hid q3; clear q3
  unfold maxLen at q2
  go_enter Try.func6, Try.ntmps6
  go_wp2_with fail
  refine hpt.mono ?_
  rintro e w1 ⟨g, bs, rfl, hbl, hmk, hg, hb1⟩
  have HM := Lib.hid hmk; have HB := Lib.hid hb1; have HBL := Lib.hid hbl; have HG := Lib.hid hg
  clear hpt hmk hb1 hbl hg
  go_wp2_with fail
  refine (hwy _).mono ?_
  rintro e w2 ⟨sv, B, rfl, hBB, ho, hb2⟩
  have HM2 := Lib.hid (HM.out.up hb2)
  have HB2 := Lib.hid (bup HB.out hb2)
  rcases ho.2 with ⟨rfl, hL0⟩ | ⟨gw, wcap, cur, rfl, hgb, hgw, hnc, hcm, hsz, htk⟩
  · exfalso
    have h9 := ho.1
    have h8 : L.length = 0 := by omega
    omega
  · have HGW : Hid (Blk w2 gw 56 cur) := Lib.hid hgw
    have HCELL : Hid (∀ k, k < L.length → cur[k * 2]? = some (.int .i64 (((L.getD k (0, 0)).1 : Nat) : Int)) ∧ cur[k * 2 + 1]? = some (.int .i64 (((L.getD k (0, 0)).2 : Nat) : Int))) := Lib.hid (fun k hk => by
      obtain ⟨x1, x2⟩ := cellsE_at L k hk
      rw [List.getD, List.getElem?_eq_getElem hk, Option.getD_some]
      have ht2 := htk
      have hl1 : k * 2 + 1 < L.length * 2 := by omega
      rw [← ht2, List.getElem?_take_of_lt (by omega), Array.getElem?_toList] at x1 x2
      exact ⟨x1, x2⟩)
    clear ho hb2 hBB hwy HM HB hgb hgw hsz htk
    have hcm2 : wcap ≤ 9223372036854775807 := by unfold maxLen at hcm; exact hcm
    go_wp2_with fail
    go_loopw [20] (fun kv wr => ∃ (k : Nat), k ≤ L.length ∧ kv = .int .i64 (k : Int) ∧ Hid (MkR wr g n n bs (KK k)) ∧ Hid (Blk wr gw 56 cur) ∧ Hid (Below w0.heap.size w0 wr)) (fun kv _ => L.length - (intOf kv).toNat)
    case atStart => exact ⟨0, by omega, rfl, by rw [HK0.out]; exact HM2, HGW, HB2⟩
    case round =>
      clear HM2 HGW HB2
      obtain ⟨k, hk, rfl, HM, HGW, HB⟩ := hrel
      by_cases hlt : k < L.length
      · obtain ⟨x1, x2⟩ := HCELL.out k hlt
        obtain ⟨y1, y2⟩ := HWL.out k hlt
        have c1 : wr.cell? ⟨gw, k * 2, none⟩ = some (.int .i64 (((L.getD k (0, 0)).1 : Nat) : Int)) := by rw [HGW.out.cell]; exact x1
        have c2 : wr.cell? ⟨gw, k * 2 + 1, none⟩ = some (.int .i64 (((L.getD k (0, 0)).2 : Nat) : Int)) := by rw [HGW.out.cell]; exact x2
        have HST := Lib.hid (HKs.out k)
        clear x1 x2
        obtain ⟨r, hr⟩ : ∃ r, r = (L.getD k (0, 0)).1 := ⟨_, rfl⟩
        obtain ⟨c, hc⟩ : ∃ c, c = (L.getD k (0, 0)).2 := ⟨_, rfl⟩
        rw [← hr] at c1 y1 HST
        rw [← hc] at c2 y2 HST
        clear hr hc
        obtain ⟨bt, hbt⟩ : ∃ b : Bool, b = bits.getD k false := ⟨_, rfl⟩
        rw [← hbt] at HST
        have hsl := HB.out.size
        have hHA := HM.out.up (bal (brf wr) (.cells #[.int .i64 (r : Nat), .int .i64 (c : Nat)] 56))
        have hbr : r < bs.length := by rw [HBL.out]; exact y1
        have d1 : (wr.alloc (.cells #[.int .i64 (r : Nat), .int .i64 (c : Nat)] 56)).cell? ⟨g, r, none⟩ = some (.slice (some ⟨bs.getD r 0, 0, none⟩) n n) := hHA.at_ r hbr
        have d2 := hHA.bit r c hbr y2
        have f2 := hHA.free r c hbr
        have d3 : (wr.alloc (.cells #[.int .i64 (r : Nat), .int .i64 (c : Nat)] 56)).cell? ⟨wr.heap.size, 0, none⟩ = some (.int .i64 (r : Nat)) := by rw [(Blk.fresh wr _ _).cell]; rfl
        have d4 : (wr.alloc (.cells #[.int .i64 (r : Nat), .int .i64 (c : Nat)] 56)).cell? ⟨wr.heap.size, 1, none⟩ = some (.int .i64 (c : Nat)) := by rw [(Blk.fresh wr _ _).cell]; rfl
        have hmb := maskBit_any m c r (wr.alloc (.cells #[.int .i64 (r : Nat), .int .i64 (c : Nat)] 56)).drew hm (by omega) (by omega)
        have hgq := HM.out.above r hbr
        have hg0 := HG.out
        have HNM := Lib.hid ((hHA.put r c (bt != maskB m c r) hbr y2).drew.congr (fun x y _ _ => (HST.out x y).symm))
        have HNG : Hid (Blk ((wr.alloc (.cells #[.int .i64 (r : Nat), .int .i64 (c : Nat)] 56)).setCell ⟨bs.getD r 0, c, none⟩ (.bool (bt != maskB m c r))).drew gw 56 cur) := Lib.hid (Blk.other (HGW.out.alloc _) (hHA.rows r hbr) (by decide) _ _).drew
        have HNB : Hid (Below w0.heap.size w0 ((wr.alloc (.cells #[.int .i64 (r : Nat), .int .i64 (c : Nat)] 56)).setCell ⟨bs.getD r 0, c, none⟩ (.bool (bt != maskB m c r))).drew) := Lib.hid ((HB.out.alloc hsl _).setCell (p := ⟨bs.getD r 0, c, none⟩) (by show w0.heap.size ≤ bs.getD r 0; omega) _).drew
        clear hHA HM HGW HST hgq
        generalize bs.getD r 0 = Q at *
        generalize KK k c r = old at *
        generalize maskB m c r = mb at *
        by_cases hkb : k < bits.length
        · obtain ⟨bb, off, rfl, hbb, hcb⟩ := HQ3.out (by omega)
          have cb : wr.cell? ⟨bb, off + k, none⟩ = some (.bool bt) := by
            rw [below_cells HB.out bb _ hbb, hbt, List.getD, List.getElem?_eq_getElem hkb]
            exact hcb k _ (bv_at bits k hkb)
          have cb2 := cell_up cb (bal (brf wr) (.cells #[.int .i64 (r : Nat), .int .i64 (c : Nat)] 56))
          clear hcb HB cb
          clear hbt
          go_wp2_with fail
          clear cb2
          refine Can.wp_region_can (fun w' => w'.cell? ⟨wr.heap.size, 0, none⟩ = some (.int .i64 (r : Nat)) ∧ w'.cell? ⟨wr.heap.size, 1, none⟩ = some (.int .i64 (c : Nat)) ∧ w'.cell? ⟨g, r, none⟩ = some (.slice (some ⟨Q, 0, none⟩) n n) ∧ w'.cell? ⟨Q, c, none⟩ = some (.bool old) ∧ w'.frozen? ⟨Q, c, none⟩ = false) 16 [0, 1, 2, 3, 4, 5, 6, 7, 8, 9, 10, 11, 12, 13, 14, 15, 16] (by kernel_rfl) (by kernel_rfl) (fun _ _ d _ _ h => by cases d <;> exact h) ⟨d3, d4, d1, d2, f2⟩ (fun hHeld => ?_)
          repeat (refine Can.can_pure (v := ?_) rfl rfl (Or.inl ⟨by rfl, ?_⟩) ?_; rotate_left; (focus ((intro w hSw); (try dsimp only at hSw); go_simp; (try with_reducible rfl))); (try simp only [Act.put, List.getElem_toArray, List.getElem_cons_succ, List.getElem_cons_zero, List.setIfInBounds_toArray, List.set_cons_zero, List.set_cons_succ]))
          refine Can.can_eff rfl rfl (by rfl) (fun K hK => ?_)
          go_simp
          refine (hmb).mono ?_
          rintro e w5 ⟨rfl, rfl⟩
          refine hK.out _ _ hHeld (fun hHeld1 => ?_)
          clear hK K
          (try simp only [Act.put, List.getElem_toArray, List.getElem_cons_succ, List.getElem_cons_zero, List.setIfInBounds_toArray, List.set_cons_zero, List.set_cons_succ])
          repeat (refine Can.can_pure (v := ?_) rfl rfl (Or.inl ⟨by rfl, ?_⟩) ?_; rotate_left; (focus ((intro w hSw); (try dsimp only at hSw); go_simp; (try with_reducible rfl))); (try simp only [Act.put, List.getElem_toArray, List.getElem_cons_succ, List.getElem_cons_zero, List.setIfInBounds_toArray, List.set_cons_zero, List.set_cons_succ]))
          have f1 := hHeld1.2.2.2.2
          have c3 := hHeld1.2.2.2.1
          refine Can.can_tail rfl rfl (by rfl) (fun K hK => ?_)
          go_simp
          refine hK.out _ _ ?_
          clear hK K
          clear hHeld hHeld1 f1 c3 d1 d2 d3 d4 f2 hmb
          go_wp2_with fail
          go_roundw
          case rel => exact ⟨k + 1, by omega, by go_num, HNM, HNG, HNB⟩
          case measure => simp [intOf]; omega
        · have hbf : bt = false := by rw [hbt, List.getD, List.getElem?_eq_none (by omega)]; rfl
          subst hbf
          have e0 : (false != mb) = mb := by cases mb <;> rfl
          rw [e0] at HNM HNG HNB
          clear hbt HB e0
          go_wp2_with fail
          refine Can.wp_region_can (fun w' => w'.cell? ⟨wr.heap.size, 0, none⟩ = some (.int .i64 (r : Nat)) ∧ w'.cell? ⟨wr.heap.size, 1, none⟩ = some (.int .i64 (c : Nat)) ∧ w'.cell? ⟨g, r, none⟩ = some (.slice (some ⟨Q, 0, none⟩) n n) ∧ w'.cell? ⟨Q, c, none⟩ = some (.bool old) ∧ w'.frozen? ⟨Q, c, none⟩ = false) 16 [0, 1, 2, 3, 4, 5, 6, 7, 8, 9, 10, 11, 12, 13, 14, 15, 16] (by kernel_rfl) (by kernel_rfl) (fun _ _ d _ _ h => by cases d <;> exact h) ⟨d3, d4, d1, d2, f2⟩ (fun hHeld => ?_)
          repeat (refine Can.can_pure (v := ?_) rfl rfl (Or.inl ⟨by rfl, ?_⟩) ?_; rotate_left; (focus ((intro w hSw); (try dsimp only at hSw); go_simp; (try with_reducible rfl))); (try simp only [Act.put, List.getElem_toArray, List.getElem_cons_succ, List.getElem_cons_zero, List.setIfInBounds_toArray, List.set_cons_zero, List.set_cons_succ]))
          refine Can.can_eff rfl rfl (by rfl) (fun K hK => ?_)
          go_simp
          refine (hmb).mono ?_
          rintro e w5 ⟨rfl, rfl⟩
          refine hK.out _ _ hHeld (fun hHeld1 => ?_)
          clear hK K
          (try simp only [Act.put, List.getElem_toArray, List.getElem_cons_succ, List.getElem_cons_zero, List.setIfInBounds_toArray, List.set_cons_zero, List.set_cons_succ])
          repeat (refine Can.can_pure (v := ?_) rfl rfl (Or.inl ⟨by rfl, ?_⟩) ?_; rotate_left; (focus ((intro w hSw); (try dsimp only at hSw); go_simp; (try with_reducible rfl))); (try simp only [Act.put, List.getElem_toArray, List.getElem_cons_succ, List.getElem_cons_zero, List.setIfInBounds_toArray, List.set_cons_zero, List.set_cons_succ]))
          have f1 := hHeld1.2.2.2.2
          have c3 := hHeld1.2.2.2.1
          refine Can.can_tail rfl rfl (by rfl) (fun K hK => ?_)
          go_simp
          refine hK.out _ _ ?_
          clear hK K
          clear hHeld hHeld1 f1 c3 d1 d2 d3 d4 f2 hmb
          go_wp2_with fail
          go_roundw
          case rel => exact ⟨k + 1, by omega, by go_num, HNM, HNG, HNB⟩
          case measure => simp [intOf]; omega
      · obtain rfl : k = L.length := by omega
        go_wp2_with fail
        go_ret
        exact ⟨g, bs, rfl, HBL.out, by rw [← HKn.out]; exact HM.out, HG.out, HB.out⟩
end Go.Proofs.Ytcldipbboidjbaa
