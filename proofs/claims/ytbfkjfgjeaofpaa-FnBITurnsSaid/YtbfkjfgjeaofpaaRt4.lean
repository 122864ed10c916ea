/-
  WALKS: impl.GridRun of turns; the law of turns.
-/
import Derived.Test.YtbfkjfgjeaofpaaRt3
import Derived.Test.YtbfkjfgjeaofpaaTe6
namespace Go.Proofs.Ytbfkjfgjeaofpaa
open Go.RowKit

/-- A matrix: its width, its height, its bits. -/
abbrev Mx := Nat × Nat × (Nat → Nat → Bool)
def turn1 (m : Mx) (op : Nat) : Mx := if op = 8 then (m.2.1, m.1, fun a c => m.2.2 (m.1 - 1 - c) a) else (m.1, m.2.1, fun x y => m.2.2 (m.1 - 1 - x) (m.2.1 - 1 - y))
def turnK (m : Mx) (os : List Nat) : Mx := os.foldl turn1 m
theorem turnK_snoc (m : Mx) (os : List Nat) (o : Nat) : turnK m (os ++ [o]) = turn1 (turnK m os) o := by simp [turnK]
def stepC (o : Nat) : List Value := [.int .i64 (o : Int), .int .i64 0, .int .i64 0, .int .i64 0, .int .i64 0, .slice none 0 0]
def stepsC (os : List Nat) : List Value := os.flatMap stepC
theorem stepsC_at (os : List Nat) (k j : Nat) (h : k < os.length) (hj : j < 6) : (stepsC os)[k * 6 + j]? = (stepC os[k])[j]? := by
  induction os generalizing k with
  | nil => simp at h
  | cons p os ih =>
    have e : stepsC (p :: os) = stepC p ++ stepsC os := rfl
    have hl : (stepC p).length = 6 := rfl
    rw [e]
    rcases k with _ | k
    · rw [List.getElem?_append_left (by rw [hl]; omega)]; simp
    · rw [List.getElem?_append_right (by rw [hl]; omega), hl, show (k + 1) * 6 + j - 6 = k * 6 + j by omega]
      exact ih k (by simpa using h)
theorem MatAt.grown {w w' : World} {p g W H : Nat} {f : Nat → Nat → Bool} {row : Option Nat} (h : MatAt w p g W H f) (hb : w.grownBy w' row) (hp : some p ≠ row) (hg : some g ≠ row) : MatAt w' p g W H f := by
  obtain ⟨ws, h1, h2⟩ := h
  exact ⟨ws, ⟨h1.head.grown hb hp, h1.rows.grown hb hg, h1.lt, h1.len, h1.apart⟩, h2⟩
set_option maxRecDepth 100000 in
set_option maxHeartbeats 4000000 in
theorem gridRun_any (v : Value) (rows : List (List Bool)) (W H gs : Nat) (os : List Nat) (w : World) (hv : RowsT w v rows) (hr : ∀ r ∈ rows, r.length = W) (hH : rows.length = H) (hW1 : 1 ≤ W) (hH1 : 1 ≤ H) (hW4 : W ≤ 4096) (hH4 : H ≤ 4096)
    (hgs : Blk w gs 48 (stepsC os).toArray) (hos : ∀ o ∈ os, o = 7 ∨ o = 8) (hol : os.length ≤ 100) (hsz : ∀ k, k ≤ os.length → 1 ≤ (turnK (W, H, bitOf rows) (os.take k)).1 ∧ (turnK (W, H, bitOf rows) (os.take k)).1 ≤ 4096 ∧ 1 ≤ (turnK (W, H, bitOf rows) (os.take k)).2.1 ∧ (turnK (W, H, bitOf rows) (os.take k)).2.1 ≤ 4096)
    (h7 : ∀ k (h : k < os.length), os[k] = 7 → 1 ≤ (turnK (W, H, bitOf rows) (os.take k)).1 % 32) :
    Calls Try.prog 22 #[v, .slice (some ⟨gs, 0, none⟩) os.length os.length] w fun e w' => ∃ v' fv, e = .returned (.tuple #[v', fv]) ∧
      RowsT w' v' (rowsF (turnK (W, H, bitOf rows) os).1 (turnK (W, H, bitOf rows) os).2.1 (turnK (W, H, bitOf rows) os).2.2) ∧ Below w.heap.size w w' := by
  obtain ⟨i0, hi0, hz0, hz1, hz2⟩ := info_parts info_bool
  have HO := Lib.hid hos; have H7 := Lib.hid h7; have HSz := Lib.hid hsz
  clear hos h7 hsz
  go_enter Try.func22, Try.ntmps22
  go_wp2_with fail
  refine (grid_any W H v rows _ hv hH hr hW1 hH1 hW4 hH4).mono ?_
  rintro e w1 ⟨p, g, rfl, hm, hp, hg, hb1⟩
  have HM := Lib.hid hm; have HB := Lib.hid hb1; have HGS := Lib.hid (hgs.up hb1)
  have hgl := hgs.lt
  have HG0 := Lib.hid hgs
  clear hm hb1 hgs hv hr hH
  generalize hmx : ((W, H, bitOf rows) : Mx) = mx at *
  have HMX := Lib.hid hmx; clear hmx
  go_wp2_with fail
  go_loopw [8, 23] (fun fv kv wr => ∃ (k g' : Nat), k ≤ os.length ∧ kv = .int .i64 k ∧ w.heap.size ≤ g' ∧ Hid (MatAt wr p g' (turnK mx (os.take k)).1 (turnK mx (os.take k)).2.1 (turnK mx (os.take k)).2.2) ∧ Hid (wr.ownsRow w.heap.size 4 1 fv k (bv (List.replicate k true))) ∧ Hid (Below w.heap.size w wr)) (fun _ kv _ => os.length - (intOf kv).toNat)
  case atStart => exact ⟨0, g, Nat.zero_le _, rfl, hg, Lib.hid (by have := HM.out; rw [← HMX.out]; exact this), Lib.hid (own_nil _ _ _), HB⟩
  case round =>
    obtain ⟨k, g', hk, rfl, hg', HMk, HOw, HBk⟩ := hrel
    by_cases hlt : k < os.length
    · have hc : ∀ j, j < 6 → wr.cell? ⟨gs, k * 6 + j, none⟩ = (stepC os[k])[j]? := fun j hj => by
        rw [(HG0.out.below HBk.out hgl).cell, List.getElem?_toArray]; exact stepsC_at os k j hlt hj
      have hts : turnK mx (os.take (k + 1)) = turn1 (turnK mx (os.take k)) os[k] := by rw [List.take_succ_eq_append_getElem hlt, turnK_snoc]
      have hsz1 := HSz.out k hk
      have h71 := H7.out k hlt
      have hop := HO.out os[k] (List.getElem_mem hlt)
      have HTS := Lib.hid hts; clear hts
      generalize os[k] = op at *
      generalize turnK mx (os.take k) = m at *
      obtain ⟨W1, H1, f1⟩ := m
      simp only at hsz1 h71
      have HM1 : Hid (MatAt wr p g' W1 H1 f1) := HMk
      clear HMk
      rcases hop with rfl | rfl
      · have h72 := h71 rfl
        have c0 : wr.cell? ⟨gs, k * 6, none⟩ = some (.int .i64 7) := hc 0 (by decide)
        have c1 : wr.cell? ⟨gs, k * 6 + 1, none⟩ = some (.int .i64 0) := hc 1 (by decide)
        have c2 : wr.cell? ⟨gs, k * 6 + 2, none⟩ = some (.int .i64 0) := hc 2 (by decide)
        have c3 : wr.cell? ⟨gs, k * 6 + 3, none⟩ = some (.int .i64 0) := hc 3 (by decide)
        have c4 : wr.cell? ⟨gs, k * 6 + 4, none⟩ = some (.int .i64 0) := hc 4 (by decide)
        have c5 : wr.cell? ⟨gs, k * 6 + 5, none⟩ = some (.slice none 0 0) := hc 5 (by decide)
        clear hc h71
        have hbase := HBk.out.size
        go_wp2_with fail
        refine (rot180_any p g' W1 H1 f1 _ (HM1.out.up (bal (brf _) _)) hsz1.1 hsz1.2.2.1 hsz1.2.1 hsz1.2.2.2 h72).mono ?_
        rintro e w2 ⟨rfl, hm2, hgr⟩
        have HM2 := Lib.hid hm2
        have HG2 : Hid (MatAt w2 p g' (turnK mx (os.take (k + 1))).1 (turnK mx (os.take (k + 1))).2.1 (turnK mx (os.take (k + 1))).2.2) := Lib.hid (by rw [HTS.out]; exact hm2)
        have hap := own_apart (HOw.out.alloc (.cells (stepC 7).toArray 48)) ((HM1.out.up (bal (brf _) (.cells (stepC 7).toArray 48))).words.choose_spec.1) (by decide)
        have HO2 := Lib.hid (own_kept (HOw.out.alloc (.cells (stepC 7).toArray 48)) hgr hap)
        have HB2 := Lib.hid ((HBk.out.alloc hbase (.cells (stepC 7).toArray 48)).trans (below_of_grown hgr hg' (by simp; omega)))
        clear hm2 hgr hap HM1 HOw HBk c0 c1 c2 c3 c4 c5
        have hb2 := HB2.out.size
        go_wp2_with (with_reducible refine stop_at (o := ⟨some 114, _, _, _, _, _⟩) ?_)
        refine Lib.hid ?_
        refine list_app_rd _ rfl _ _ 22 rfl w.heap.size 4 i0 _ 1 Try.underlying22 hi0 hz0 hz1 hz2 rfl _ k (bv (List.replicate k true)) rfl (HO2.out.alloc _) _ _ [.bool true] rfl (Rd.one rfl _ _) (fun u hu => by simp at hu; subst hu; rfl) (by simp only [List.length_singleton]; unfold maxLen; omega) (by simp only [List.length_singleton]; omega) (by simp; omega) ?_
        intro v1 w3 ho1 hg1
        have HB3 := Lib.hid (below_grown (HB2.out.alloc hb2 (.cells #[.bool true] 4)) hg1 (HO2.out.alloc _) (by simp; omega))
        have HO3 : Hid (w3.ownsRow w.heap.size 4 1 v1 (k + 1) (bv (List.replicate (k + 1) true))) := Lib.hid (by
          have e : bv (List.replicate (k + 1) true) = bv (List.replicate k true) ++ [.bool true] := by simp [bv, List.replicate_succ']
          rw [e]; exact ho1)
        have hm3 := HG2.out.up (bal (brf w2) (.cells #[.bool true] 4))
        have HG3 := Lib.hid (hm3.grown hg1 (own_apart (HO2.out.alloc _) hm3.heads.1 (by decide)) (own_apart (HO2.out.alloc _) hm3.words.choose_spec.1 (by decide)))
        clear ho1 hg1 hm3 HG2 HO2 HB2 HM2
        go_wp2
        go_roundw
        case rel => exact ⟨k + 1, g', by omega, by go_num, hg', HG3, HO3, HB3⟩
        case measure => simp [intOf]; omega
      · have c0 : wr.cell? ⟨gs, k * 6, none⟩ = some (.int .i64 8) := hc 0 (by decide)
        have c1 : wr.cell? ⟨gs, k * 6 + 1, none⟩ = some (.int .i64 0) := hc 1 (by decide)
        have c2 : wr.cell? ⟨gs, k * 6 + 2, none⟩ = some (.int .i64 0) := hc 2 (by decide)
        have c3 : wr.cell? ⟨gs, k * 6 + 3, none⟩ = some (.int .i64 0) := hc 3 (by decide)
        have c4 : wr.cell? ⟨gs, k * 6 + 4, none⟩ = some (.int .i64 0) := hc 4 (by decide)
        have c5 : wr.cell? ⟨gs, k * 6 + 5, none⟩ = some (.slice none 0 0) := hc 5 (by decide)
        clear hc h71
        have hbase := HBk.out.size
        go_wp2_with fail
        refine (rot90_any p g' W1 H1 f1 _ (HM1.out.up (bal (brf _) _)) hsz1.1 hsz1.2.2.1 hsz1.2.1 hsz1.2.2.2).mono ?_
        rintro e w2 ⟨g2, rfl, hm2, hgr, hg2⟩
        have hgg : w.heap.size ≤ g2 := by simp at hg2; omega
        have HM2 := Lib.hid hm2
        have HG2 : Hid (MatAt w2 p g2 (turnK mx (os.take (k + 1))).1 (turnK mx (os.take (k + 1))).2.1 (turnK mx (os.take (k + 1))).2.2) := Lib.hid (by rw [HTS.out]; exact hm2)
        have hap := own_apart (HOw.out.alloc (.cells (stepC 8).toArray 48)) ((HM1.out.up (bal (brf _) (.cells (stepC 8).toArray 48))).heads.1) (by decide)
        have HO2 := Lib.hid (own_kept (HOw.out.alloc (.cells (stepC 8).toArray 48)) hgr hap)
        have HB2 := Lib.hid ((HBk.out.alloc hbase (.cells (stepC 8).toArray 48)).trans (below_of_grown hgr hp (by simp; omega)))
        clear hm2 hgr hap HM1 HOw HBk c0 c1 c2 c3 c4 c5
        have hb2 := HB2.out.size
        go_wp2_with (with_reducible refine stop_at (o := ⟨some 114, _, _, _, _, _⟩) ?_)
        refine Lib.hid ?_
        refine list_app_rd _ rfl _ _ 22 rfl w.heap.size 4 i0 _ 1 Try.underlying22 hi0 hz0 hz1 hz2 rfl _ k (bv (List.replicate k true)) rfl (HO2.out.alloc _) _ _ [.bool true] rfl (Rd.one rfl _ _) (fun u hu => by simp at hu; subst hu; rfl) (by simp only [List.length_singleton]; unfold maxLen; omega) (by simp only [List.length_singleton]; omega) (by simp; omega) ?_
        intro v1 w3 ho1 hg1
        have HB3 := Lib.hid (below_grown (HB2.out.alloc hb2 (.cells #[.bool true] 4)) hg1 (HO2.out.alloc _) (by simp; omega))
        have HO3 : Hid (w3.ownsRow w.heap.size 4 1 v1 (k + 1) (bv (List.replicate (k + 1) true))) := Lib.hid (by
          have e : bv (List.replicate (k + 1) true) = bv (List.replicate k true) ++ [.bool true] := by simp [bv, List.replicate_succ']
          rw [e]; exact ho1)
        have hm3 := HG2.out.up (bal (brf w2) (.cells #[.bool true] 4))
        have HG3 := Lib.hid (hm3.grown hg1 (own_apart (HO2.out.alloc _) hm3.heads.1 (by decide)) (own_apart (HO2.out.alloc _) hm3.words.choose_spec.1 (by decide)))
        clear ho1 hg1 hm3 HG2 HO2 HB2 HM2
        go_wp2
        go_roundw
        case rel => exact ⟨k + 1, g2, by omega, by go_num, hgg, HG3, HO3, HB3⟩
        case measure => simp [intOf]; omega
    · obtain rfl : k = os.length := by omega
      have hsz1 := HSz.out os.length (Nat.le_refl _)
      rw [List.take_length] at hsz1 HMk
      obtain ⟨W1, H1, f1, hte⟩ : ∃ W1 H1 f1, turnK mx os = (W1, H1, f1) := ⟨_, _, _, rfl⟩
      rw [hte] at hsz1 HMk
      have HTE := Lib.hid hte; clear hte
      simp only at hsz1
      have HM1 : Hid (MatAt wr p g' W1 H1 f1) := HMk
      clear HMk
      obtain ⟨A, cap, hfv, _, _⟩ := (Rd.of_own HOw.out).form
      subst hfv
      go_wp2_with fail
      refine (rowsOf_any p g' W1 H1 f1 _ HM1.out hsz1.2.1 hsz1.2.2.2).mono ?_
      rintro e w2 ⟨v2, rfl, hv2, hb2⟩
      have HV2 := Lib.hid hv2
      have HB2 := Lib.hid (bup HBk.out hb2)
      clear hv2 hb2 HM1 HOw HBk
      go_wp2
      go_ret2
      exact ⟨v2, _, rfl, by rw [HMX.out, HTE.out]; exact HV2.out, HB2.out⟩
end Go.Proofs.Ytbfkjfgjeaofpaa
