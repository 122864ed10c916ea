/-
  WALKS: spec.DMSizes, laws.dmSized.
-/
import Derived.Test.YtjpcajecmfhppaaDoorDe5
namespace Go.Proofs.YtjpcajecmfhppaaDoor
open Go.RowKit

def szL : List (List Nat) := [[10, 10, 8, 8, 3, 5, 1], [12, 12, 10, 10, 5, 7, 1], [8, 18, 6, 16, 5, 7, 1], [14, 14, 12, 12, 8, 10, 1], [8, 32, 6, 14, 10, 11, 1], [16, 16, 14, 14, 12, 12, 1],
  [12, 26, 10, 24, 16, 14, 1], [18, 18, 16, 16, 18, 14, 1], [20, 20, 18, 18, 22, 18, 1], [12, 36, 10, 16, 22, 18, 1], [22, 22, 20, 20, 30, 20, 1], [16, 36, 14, 16, 32, 24, 1],
  [24, 24, 22, 22, 36, 24, 1], [26, 26, 24, 24, 44, 28, 1], [16, 48, 14, 22, 49, 28, 1], [32, 32, 14, 14, 62, 36, 1], [36, 36, 16, 16, 86, 42, 1], [40, 40, 18, 18, 114, 48, 1],
  [44, 44, 20, 20, 144, 56, 1], [48, 48, 22, 22, 174, 68, 1], [52, 52, 24, 24, 204, 84, 2], [64, 64, 14, 14, 280, 112, 2], [72, 72, 16, 16, 368, 144, 4], [80, 80, 18, 18, 456, 192, 4],
  [88, 88, 20, 20, 576, 224, 4], [96, 96, 22, 22, 696, 272, 4], [104, 104, 24, 24, 816, 336, 6], [120, 120, 18, 18, 1050, 408, 6], [132, 132, 20, 20, 1304, 496, 8], [144, 144, 22, 22, 1558, 620, 10]]
def szA (k j : Nat) : Nat := (szL.getD k []).getD j 0
def szF : List Nat := szL.flatten
theorem szF_at : ∀ k, k < 30 → ∀ j, j < 7 → szF[k * 7 + j]? = some (szA k j) := by decide
theorem szA_le : ∀ k, k < 30 → szA k 4 ≤ 1558 := by decide
set_option maxRecDepth 100000 in
set_option maxHeartbeats 4000000 in
theorem sizes_any (w : World) : Calls Tryd.prog 13 #[] w fun e w' => ∃ g, e = .returned (.slice (some ⟨g, 0, none⟩) 30 30) ∧ Blk w' g 31 (nv szF).toArray ∧ Below w.heap.size w w' := by
  go_enter Tryd.func13, Tryd.ntmps13
  go_wp2_with (with_reducible refine stop_at (o := ⟨some 31, _, _, _, _, _⟩) ?_)
  refine Lib.hid ?_
  refine list_build1 rfl _ _ _ rfl (.slice (some ⟨w.heap.size, 0, none⟩) 30 30) (w.alloc (.cells (nv szF).toArray 31)) (by kernel_rfl) ?_
  go_wp2
  go_ret
  exact ⟨_, rfl, Blk.fresh w _ _, bal (brf w) _⟩
theorem list_app7 {P : Program} {w : World} {ops : Array Oper} {rest : List Oper} {o : Oper} {a : Act} {Q : Exit → Act → World → Prop} (hgd : o.guard = none) (s x : Operand) (t : TypeId)
    (ho : o.op = .call { callee := .builtin .append, args := #[s, x], argTypes := #[t, t] })
    (base : Nat) (e : TypeId) (i : TypeInfo) (z : Value) (bytes : Nat) (ht : P.underlying t = some (.slice e)) (hi : P.info? e = some i) (hz : i.zero = some z)
    (hsize : i.size = 7) (hby : i.bytes = bytes) (hzs : z.cells.size = 7)
    (v : Value) (n : Nat) (xs : List Value) (hs : a.eval s = v) (hown : w.ownsRow base e 7 v n xs) (ad : Addr) (c : Nat) (news : List Value) (hx : a.eval x = .slice (some ad) 1 c) (hl : news.length = 7)
    (hnews : ∀ j u, news[j]? = some u → w.cell? (ad.add j) = some u) (h1 : ∀ u ∈ news, u.oneCell' = true)
    (h63 : n + 1 ≤ maxLen) (hbytes : (n + 1) * bytes ≤ 140737488355328) (hbase : base ≤ w.heap.size)
    (h : ∀ v' w', w'.ownsRow base e 7 v' (n + 1) (xs ++ news) → w.grownBy w' v.ownBlock → wpList P ops Q rest (a.put o.dst v') w') : wpList P ops Q (o :: rest) a w :=
  wpList_plain hgd fun _ hK => by
    obtain ⟨v', w', hrun, h2, h3, _, _⟩ := run_append_own_at (P := P) w base t o.type e i z 7 bytes ht hi hz hsize hby hzs (by omega) v n xs hown ad 1 c news hl hnews h1 h63 hbytes hbase
    unfold Oper.wp execOp
    simp only [ho, resolve, invoke, builtin, Sem.run_bind, Sem.run_pure, Result.andThen_ok, List.map_toArray, List.map_cons, List.map_nil, hs, hx, hrun]
    exact hK _ _ (h v' w' h2 h3)
/-- Sizes by their numbers, one behind the other. -/
def szCells (ks : List Nat) : List Nat := (ks.map fun k => [szA k 0, szA k 1, szA k 2, szA k 3, szA k 4, szA k 5, szA k 6]).flatten
theorem szCells_snoc (ks : List Nat) (k : Nat) : szCells (ks ++ [k]) = szCells ks ++ [szA k 0, szA k 1, szA k 2, szA k 3, szA k 4, szA k 5, szA k 6] := by simp [szCells]
theorem szCells_at : ∀ (ks : List Nat) (r : Nat) (k : Nat), ks[r]? = some k → ∀ j, j < 7 → (szCells ks)[r * 7 + j]? = some (szA k j)
  | [], r, k, h, _, _ => by simp at h
  | a :: ks, 0, k, h, j, hj => by
    simp at h
    subst h
    have e : szCells (a :: ks) = [szA a 0, szA a 1, szA a 2, szA a 3, szA a 4, szA a 5, szA a 6] ++ szCells ks := by simp [szCells]
    rw [e, List.getElem?_append_left (by simp; omega)]
    have h7 : j = 0 ∨ j = 1 ∨ j = 2 ∨ j = 3 ∨ j = 4 ∨ j = 5 ∨ j = 6 := by omega
    rcases h7 with rfl | rfl | rfl | rfl | rfl | rfl | rfl <;> rfl
  | a :: ks, r + 1, k, h, j, hj => by
    have ih := szCells_at ks r k (by simpa using h) j hj
    have e : szCells (a :: ks) = [szA a 0, szA a 1, szA a 2, szA a 3, szA a 4, szA a 5, szA a 6] ++ szCells ks := by simp [szCells]
    rw [e, List.getElem?_append_right (by simp; omega)]
    have e2 : (r + 1) * 7 + j - [szA a 0, szA a 1, szA a 2, szA a 3, szA a 4, szA a 5, szA a 6].length = r * 7 + j := by simp; omega
    rw [e2]; exact ih
theorem nv_get (l : List Nat) (i x : Nat) (h : l[i]? = some x) : (nv l)[i]? = some (.int .i64 (x : Nat)) := by simp [nv, h]
/-- A size's cells. -/
def szV (k : Nat) : Array Value := #[.int .i64 (szA k 0 : Nat), .int .i64 (szA k 1 : Nat), .int .i64 (szA k 2 : Nat), .int .i64 (szA k 3 : Nat), .int .i64 (szA k 4 : Nat), .int .i64 (szA k 5 : Nat), .int .i64 (szA k 6 : Nat)]
def szZ : Array Value := #[.int .i64 0, .int .i64 0, .int .i64 0, .int .i64 0, .int .i64 0, .int .i64 0, .int .i64 0]
theorem ownN_cell {w : World} {base n size : Nat} {e : TypeId} {A : Option Addr} {m c : Nat} {xs : List Value} (h : w.ownsRow base e size (.slice A m c) n xs) {i : Nat} {u : Value} (hu : xs[i]? = some u) : m = n ∧ n ≤ c ∧ c ≤ maxLen ∧ ∃ g, A = some ⟨g, 0, none⟩ ∧ w.cell? ⟨g, i, none⟩ = some u := by
  obtain ⟨h1, ⟨hv, hn⟩ | ⟨g, cap, cur, hv, hb, hg, hn, hc, hs, ht⟩⟩ := h
  · subst hn
    have : xs = [] := List.eq_nil_of_length_eq_zero (by simpa using h1)
    subst this
    simp at hu
  · injection hv with e1 e2 e3
    subst e1 e2 e3
    refine ⟨rfl, hn, hc, g, rfl, ?_⟩
    have hil : i < xs.length := (List.getElem?_eq_some_iff.1 hu).1
    rw [Blk.cell (w := w) (g := g) (t := e) (cs := cur) hg]
    rw [← ht, List.getElem?_take_of_lt (by omega)] at hu
    simpa using hu
theorem ownN_form {w : World} {base n size : Nat} {e : TypeId} {v : Value} {xs : List Value} (h : w.ownsRow base e size v n xs) : ∃ A c, v = .slice A n c ∧ n ≤ c ∧ c ≤ maxLen := by
  obtain ⟨_, ⟨rfl, hn⟩ | ⟨g, cap, cur, rfl, _, _, hn, hc, _⟩⟩ := h
  · subst hn; exact ⟨none, 0, rfl, Nat.le_refl _, by decide⟩
  · exact ⟨_, cap, rfl, hn, hc⟩
theorem blk_all {w : World} {g : Nat} {e : TypeId} {xs : List Value} (hb : Blk w g e xs.toArray) : ∀ j u, xs[j]? = some u → w.cell? ((⟨g, 0, none⟩ : Addr).add j) = some u := by
  intro j u hu
  have e1 : (⟨g, 0, none⟩ : Addr).add j = ⟨g, j, none⟩ := by unfold Addr.add; split <;> simp_all
  rw [e1, hb.cell, List.getElem?_toArray]; exact hu
set_option maxRecDepth 100000 in
set_option maxHeartbeats 4000000 in
theorem sized_any (A : Option Addr) (L c : Nat) (which : Int) (w : World) (hL : L ≤ 100000000) (hw1 : -9223372036854775808 ≤ which ∧ which ≤ 9223372036854775807) :
    Calls Tryd.prog 7 #[.slice A L c, .int .i64 which] w fun e w' => (e = .returned (.tuple #[.agg szZ, .bool false]) ∨ ∃ k, k < 30 ∧ L + 3 ≤ szA k 4 ∧ e = .returned (.tuple #[.agg (szV k), .bool true])) ∧ Below w.heap.size w w' := by
  obtain ⟨i0, hi0, hz0, hz1, hz2⟩ := info_parts (P := Tryd.prog) (e := 31) (z := .agg szZ) (bytes := 56) (size := 7) (by kernel_rfl)
  go_enter Tryd.func7, Tryd.ntmps7
  go_wp2_with fail
  refine (sizes_any _).mono ?_
  rintro e w1 ⟨g, rfl, hg, hb⟩
  have HZ := Lib.hid (Blk.up (Blk.fresh w 31 szZ) hb)
  have HB1 := Lib.hid (bup (bal (brf w) (.cells szZ 31)) hb)
  have HG := Lib.hid hg
  clear hg hb
  go_wp2_with fail
  go_loopw [6, 11] (fun lv iv wr => ∃ (i n : Nat) (ks : List Nat) (A2 : Option Addr) (c2 : Nat), iv = .int .i64 (i : Int) ∧ i ≤ 30 ∧ lv = .slice A2 n c2 ∧ n ≤ c2 ∧ c2 ≤ 9223372036854775807 ∧ n ≤ i ∧ Hid (n = ks.length) ∧ Hid (wr.ownsRow w1.heap.size 31 7 (.slice A2 n c2) n (nv (szCells ks))) ∧ Hid (∀ k ∈ ks, k < 30 ∧ L + 3 ≤ szA k 4) ∧ Hid (Below w1.heap.size w1 wr)) (fun _ iv _ => 30 - (intOf iv).toNat)
  case atStart => exact ⟨0, 0, [], none, 0, rfl, by decide, rfl, Nat.le_refl _, by decide, Nat.le_refl _, Lib.hid rfl, Lib.hid ⟨rfl, .inl ⟨rfl, rfl⟩⟩, Lib.hid (fun k hk => by cases hk), Lib.hid (brf w1)⟩
  case round =>
    obtain ⟨i, n, ks, A2, c2, rfl, hi, rfl, hnc, hcm, hni, HN, HO, HK, HB⟩ := hrel
    rename World => wr
    by_cases hlt : i < 30
    · have hc : ∀ j, j < 7 → wr.cell? ⟨g, i * 7 + j, none⟩ = some (.int .i64 ((szA i j : Nat) : Int)) := fun j hj => by
        rw [(HG.out.up HB.out).cell, List.getElem?_toArray]; exact nv_get _ _ _ (szF_at i hlt j hj)
      have c0 := hc 0 (by decide); have c1 := hc 1 (by decide); have c2' := hc 2 (by decide); have c3 := hc 3 (by decide); have c4 := hc 4 (by decide); have c5 := hc 5 (by decide); have c6 := hc 6 (by decide)
      rw [Nat.add_zero] at c0
      have hs4 := szA_le i hlt
      have HSC := Lib.hid (szCells_snoc ks i)
      have HSK : Hid (L + 3 ≤ szA i 4 → L + 3 ≤ szA i 4) := Lib.hid id
      clear hc
      obtain ⟨a0, ha0⟩ : ∃ x, x = szA i 0 := ⟨_, rfl⟩
      obtain ⟨a1, ha1⟩ : ∃ x, x = szA i 1 := ⟨_, rfl⟩
      obtain ⟨a2, ha2⟩ : ∃ x, x = szA i 2 := ⟨_, rfl⟩
      obtain ⟨a3, ha3⟩ : ∃ x, x = szA i 3 := ⟨_, rfl⟩
      obtain ⟨a4, ha4⟩ : ∃ x, x = szA i 4 := ⟨_, rfl⟩
      obtain ⟨a5, ha5⟩ : ∃ x, x = szA i 5 := ⟨_, rfl⟩
      obtain ⟨a6, ha6⟩ : ∃ x, x = szA i 6 := ⟨_, rfl⟩
      rw [← ha0] at c0 HSC; rw [← ha1] at c1 HSC; rw [← ha2] at c2' HSC; rw [← ha3] at c3 HSC; rw [← ha4] at c4 HSC hs4 HSK; rw [← ha5] at c5 HSC; rw [← ha6] at c6 HSC
      have HA4 := Lib.hid ha4
      obtain ⟨L3, hL3⟩ : ∃ x, x = L + 3 := ⟨_, rfl⟩
      have e1 : (L : Int) + 3 = (L3 : Int) := by omega
      have hL3b : L3 ≤ 200000000 := by omega
      have HL3 := Lib.hid hL3
      clear ha0 ha1 ha2 ha3 ha4 ha5 ha6 hL3
      by_cases hge : L3 ≤ a4
      · have hge2 : (L3 : Int) ≤ (a4 : Int) := by omega
        go_wp2_with (with_reducible refine stop_at (o := ⟨some 24, _, _, _, _, _⟩) ?_)
        refine Lib.hid ?_
        have hal := bal (bal (brf wr) (.cells #[.int .i64 (a0 : Int), .int .i64 (a1 : Int), .int .i64 (a2 : Int), .int .i64 (a3 : Int), .int .i64 (a4 : Int), .int .i64 (a5 : Int), .int .i64 (a6 : Int)] 31)) (.cells #[.int .i64 (a0 : Int), .int .i64 (a1 : Int), .int .i64 (a2 : Int), .int .i64 (a3 : Int), .int .i64 (a4 : Int), .int .i64 (a5 : Int), .int .i64 (a6 : Int)] 31)
        have hob := own_up HO.out hal
        refine list_app7 rfl _ _ _ rfl w1.heap.size 31 i0 _ 56 Tryd.underlying43 hi0 hz0 hz1 hz2 rfl _ n _ rfl hob ⟨wr.heap.size + 1, 0, none⟩ 1 (nv [a0, a1, a2, a3, a4, a5, a6]) rfl rfl (blk_all (Blk.fresh' (by simp))) (nv_one _) (by unfold maxLen; omega) (by omega) (by have := HB.out.size; simp; omega) ?_
        intro v5 w5 ho5 hg5
        rw [← nv_app, ← HSC.out] at ho5
        obtain ⟨A5, c5', hv5, k1, k2⟩ := ownN_form ho5
        unfold maxLen at k2
        subst hv5
        have HO5 := Lib.hid ho5
        have HB5 : Hid (Below w1.heap.size w1 w5) := Lib.hid (below_grown (bup HB.out hal) hg5 hob (by have := HB.out.size; simp; omega))
        have HN5 : Hid (n + 1 = (ks ++ [i]).length) := Lib.hid (by rw [List.length_append, ← HN.out]; rfl)
        have HK5 : Hid (∀ k ∈ ks ++ [i], k < 30 ∧ L + 3 ≤ szA k 4) := Lib.hid (fun k hk => by
          rcases List.mem_append.1 hk with hk | hk
          · exact HK.out k hk
          · rw [List.mem_singleton] at hk
            subst hk
            exact ⟨hlt, by rw [← HA4.out, ← HL3.out]; exact hge⟩)
        clear ho5 hg5 hob hal HO HB HN HK HSC HSK HA4 c0 c1 c2' c3 c4 c5 c6
        go_wp2_with fail
        go_roundw
        case rel => exact ⟨i + 1, n + 1, ks ++ [i], A5, c5', by go_num, hlt, rfl, k1, k2, by omega, HN5, HO5, HK5, HB5⟩
        case measure => simp [intOf]; omega
      · have hge2 : ¬ (L3 : Int) ≤ (a4 : Int) := by omega
        have hal := bal (brf wr) (.cells #[.int .i64 (a0 : Int), .int .i64 (a1 : Int), .int .i64 (a2 : Int), .int .i64 (a3 : Int), .int .i64 (a4 : Int), .int .i64 (a5 : Int), .int .i64 (a6 : Int)] 31)
        have HO5 := Lib.hid (own_up HO.out hal)
        have HB5 := Lib.hid (bup HB.out hal)
        clear hal HO HB HSC HSK HA4
        go_wp2_with fail
        go_roundw
        case rel => exact ⟨i + 1, n, ks, A2, c2, by go_num, hlt, rfl, hnc, hcm, by omega, HN, HO5, HK, HB5⟩
        case measure => simp [intOf]; omega
    · have hzr := Lib.hid (HZ.out.up HB.out)
      have HBF := Lib.hid (bup HB1.out HB.out)
      by_cases hn0 : n = 0
      · have hn1 : (n : Int) = 0 := by omega
        clear hn0
        go_wp2_with (with_reducible refine stop_at (o := ⟨none, _, _, _, _, _⟩) ?_)
        refine Lib.hid ?_
        refine wpList_store_rowTo rfl 31 _ _ rfl rfl w.heap.size szZ rfl rfl 31 _ hzr.out (by kernel_rfl) rfl (by simp [szZ, Value.oneCell']) ?_
        have HO9 := Lib.hid (Onl.row wr w.heap.size szZ)
        have K0 := Lib.hid (setRow_heap wr w.heap.size _ szZ 31 (0, 0) hzr.out)
        have HB9 : Hid (Below w.heap.size w (wr.setRow w.heap.size szZ)) := Lib.hid (HO9.out.below _ _ HBF.out (Nat.le_refl _) HBF.out.size)
        go_wp2
        refine bodyPost_ret (cell_back1 rfl _ _ _ w.heap.size rfl szZ (.bool false) rfl (run_loadVar_row _ _ _ _ _ _ _ K0.out Tryd.underlying31 rfl (by kernel_rfl))) rfl ?_
        exact ⟨.inl rfl, HB9.out⟩
      · have hn1 : ¬ (n : Int) = 0 := by omega
        by_cases hwn : which < 0
        · go_wp2_with (with_reducible refine stop_at (o := ⟨none, _, _, _, _, _⟩) ?_)
          refine Lib.hid ?_
          refine wpList_store_rowTo rfl 31 _ _ rfl rfl w.heap.size szZ rfl rfl 31 _ hzr.out (by kernel_rfl) rfl (by simp [szZ, Value.oneCell']) ?_
          have HO9 := Lib.hid (Onl.row wr w.heap.size szZ)
          have K0 := Lib.hid (setRow_heap wr w.heap.size _ szZ 31 (0, 0) hzr.out)
          have HB9 : Hid (Below w.heap.size w (wr.setRow w.heap.size szZ)) := Lib.hid (HO9.out.below _ _ HBF.out (Nat.le_refl _) HBF.out.size)
          go_wp2
          refine bodyPost_ret (cell_back1 rfl _ _ _ w.heap.size rfl szZ (.bool false) rfl (run_loadVar_row _ _ _ _ _ _ _ K0.out Tryd.underlying31 rfl (by kernel_rfl))) rfl ?_
          exact ⟨.inl rfl, HB9.out⟩
        · obtain ⟨W, rfl⟩ := Int.eq_ofNat_of_zero_le (show 0 ≤ which by omega)
          obtain ⟨r, hr⟩ : ∃ r, r = W % n := ⟨_, rfl⟩
          have hrn : r < n := by rw [hr]; exact Nat.mod_lt _ (by omega)
          have d1 : Int.tmod (W : Int) (n : Int) = (r : Int) := by rw [Int.tmod_eq_emod_of_nonneg (by omega), hr]; rfl
          have d2 : (W : Int) % (n : Int) = (r : Int) := by rw [hr]; rfl
          have hrk : r < ks.length := by rw [← HN.out]; exact hrn
          obtain ⟨k, hk⟩ : ∃ k, k = ks[r] := ⟨_, rfl⟩
          have hkk : ks[r]? = some k := by rw [List.getElem?_eq_getElem hrk, hk]
          have HKF : Hid (k < 30 ∧ L + 3 ≤ szA k 4) := Lib.hid (HK.out k (by rw [hk]; exact List.getElem_mem hrk))
          have hcc := fun j hj => ownN_cell HO.out (nv_get _ _ _ (szCells_at ks r k hkk j hj))
          obtain ⟨-, -, -, g2, rfl, c0⟩ := hcc 0 (by decide)
          have hcj : ∀ j, j < 7 → wr.cell? ⟨g2, r * 7 + j, none⟩ = some (.int .i64 ((szA k j : Nat) : Int)) := fun j hj => by
            obtain ⟨-, -, -, g3, h3, h4⟩ := hcc j hj
            injection h3 with h3
            injection h3 with h3
            subst h3
            exact h4
          have c1 := hcj 1 (by decide); have c2' := hcj 2 (by decide); have c3 := hcj 3 (by decide); have c4 := hcj 4 (by decide); have c5 := hcj 5 (by decide); have c6 := hcj 6 (by decide)
          rw [Nat.add_zero] at c0
          have hwi : ¬ (W : Int) < 0 := by omega
          have hri : (r : Int) < (n : Int) := by omega
          clear hr hk hkk hcc hcj hn0
          go_wp2_with (with_reducible refine stop_at (o := ⟨none, _, _, _, _, _⟩) ?_)
          refine Lib.hid ?_
          refine wpList_store_rowTo rfl 31 _ _ rfl rfl w.heap.size (szV k) rfl rfl 31 _ hzr.out (by kernel_rfl) rfl (by simp [szV, Value.oneCell']) ?_
          have HO9 := Lib.hid (Onl.row wr w.heap.size (szV k))
          have K0 := Lib.hid (setRow_heap wr w.heap.size _ (szV k) 31 (0, 0) hzr.out)
          have HB9 : Hid (Below w.heap.size w (wr.setRow w.heap.size (szV k))) := Lib.hid (HO9.out.below _ _ HBF.out (Nat.le_refl _) HBF.out.size)
          go_wp2
          refine bodyPost_ret (cell_back1 rfl _ _ _ w.heap.size rfl (szV k) (.bool true) rfl (run_loadVar_row _ _ _ _ _ _ _ K0.out Tryd.underlying31 rfl (by kernel_rfl))) rfl ?_
          exact ⟨.inr ⟨k, HKF.out.1, HKF.out.2, rfl⟩, HB9.out⟩
end Go.Proofs.YtjpcajecmfhppaaDoor
