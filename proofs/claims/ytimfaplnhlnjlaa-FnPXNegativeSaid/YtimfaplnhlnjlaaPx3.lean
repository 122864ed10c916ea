/-
  THE LAW of a histogram's bound, walked.
-/
import Derived.Test.YtimfaplnhlnjlaaPx2
namespace Go.Proofs.Ytimfaplnhlnjlaa
open Go.RowKit

/-- 16-bit numbers as values. -/
def uv (xs : List Nat) : List Value := xs.map fun n : Nat => Value.int .u16 (n : Int)
theorem uv_len (xs : List Nat) : (uv xs).length = xs.length := by simp [uv]
theorem uv_at (xs : List Nat) (i : Nat) (h : i < xs.length) : (uv xs)[i]? = some (.int .u16 ((xs[i] : Nat) : Int)) := by simp [uv, h]
/-- The counts, as far as k. -/
def part (xs : List Nat) (k : Nat) : List Nat := (List.range 32).map fun j => if j < k then xs.getD j 0 else 0
theorem part_len (xs : List Nat) (k : Nat) : (part xs k).length = 32 := by simp [part]
theorem part_at (xs : List Nat) (k j : Nat) (hj : j < 32) : (part xs k).getD j 0 = if j < k then xs.getD j 0 else 0 := by
  unfold part
  rw [List.getD, List.getElem?_map, List.getElem?_range hj]; rfl
theorem part_over (xs : List Nat) (k j : Nat) (hj : 32 ≤ j) : (part xs k).getD j 0 = 0 := by
  rw [List.getD, List.getElem?_eq_none (by rw [part_len]; exact hj)]; rfl
theorem part_set (xs : List Nat) (k : Nat) (hk : k < 32) : (nv (part xs k)).toArray.setIfInBounds k (.int .i64 ((xs.getD k 0 : Nat) : Int)) = (nv (part xs (k + 1))).toArray := by
  apply Array.ext_getElem?
  intro j
  have hs : (nv (part xs k)).toArray.size = 32 := by simp [nv_len, part_len]
  rcases Nat.lt_or_ge j 32 with hj | hj
  · have h1 : (nv (part xs (k + 1))).toArray[j]? = some (.int .i64 (((part xs (k + 1)).getD j 0 : Nat) : Int)) := by
      rw [List.getElem?_toArray]; exact nv_at _ _ (by rw [part_len]; exact hj)
    rw [h1, part_at _ _ _ hj]
    by_cases hjk : j = k
    · subst hjk
      rw [Array.getElem?_setIfInBounds_self_of_lt (by omega), if_pos (by omega)]
    · rw [Array.getElem?_setIfInBounds_ne (fun h => hjk h.symm), List.getElem?_toArray, nv_at _ _ (by rw [part_len]; exact hj), part_at _ _ _ hj]
      by_cases hlt : j < k
      · rw [if_pos hlt, if_pos (by omega)]
      · rw [if_neg hlt, if_neg (by omega)]
  · rw [Array.getElem?_eq_none (by rw [Array.size_setIfInBounds]; omega), Array.getElem?_eq_none (by simp [nv_len, part_len]; exact hj)]
theorem part_end (xs : List Nat) (k : Nat) (hk : xs.length ≤ k) : part xs k = part xs 32 := by
  unfold part
  apply List.map_congr_left
  intro j hj
  have hj' := List.mem_range.1 hj
  rw [if_pos hj']
  split
  · rfl
  · rw [List.getD, List.getElem?_eq_none (by omega)]; rfl
theorem cnt_end (xs : List Nat) (k m : Nat) (hk : xs.length ≤ k) : cntN (fun j => xs.getD j 0) (k + m) = cntN (fun j => xs.getD j 0) k := by
  induction m with
  | zero => rfl
  | succ m ih =>
    have h0 : xs.getD (k + m) 0 = 0 := by rw [List.getD, List.getElem?_eq_none (by omega)]; rfl
    show cntN (fun j => xs.getD j 0) (k + m) + (if 0 < xs.getD (k + m) 0 then 1 else 0) = _
    rw [ih, h0]; rfl
theorem cnt_congr (c d : Nat → Nat) (k : Nat) (h : ∀ j, j < k → c j = d j) : cntN c k = cntN d k := by
  induction k with
  | zero => rfl
  | succ k ih => unfold cntN; rw [ih (fun j hj => h j (by omega)), h k (by omega)]

theorem rep_nv (n : Nat) : rep n (.int .i64 0) = (nv (List.replicate n 0)).toArray := by simp [nv, rep]
set_option maxRecDepth 100000 in
theorem buckets_any (v : Value) (xs : List Nat) (w : World) (hv : Rd w w.heap.size v (uv xs)) (hx : ∀ x ∈ xs, x < 65536) :
    Calls Try.prog 7 #[v] w fun e w' => ∃ v', e = .returned (.tuple #[v', .int .i64 (cntN (fun j => (part xs 32).getD j 0) 32 : Nat)]) ∧ Rd w' w'.heap.size v' (nv (part xs 32)) ∧ Below w.heap.size w w' := by
  have hmk : (Instr.makeSlice 23 (.int .i64 32) (.int .i64 32)).run Try.prog w = .ok (.slice (some ⟨w.heap.size, 0, none⟩) 32 32) (w.alloc (.cells (rep 32 (.int .i64 0)) 3)) := run_mk (P := Try.prog) 23 3 (.int .i64 0) 8 Try.underlying23 info_int rfl 32 (by omega) (by omega) w
  have hX := Blk.fresh w 3 (rep 32 (.int .i64 0))
  have hB := bal (brf w) (.cells (rep 32 (.int .i64 0)) 3)
  generalize (w.alloc (.cells (rep 32 (.int .i64 0)) 3)) = w1 at *
  have hp0 : rep 32 (.int .i64 0) = (nv (part xs 0)).toArray := by
    have e : part xs 0 = List.replicate 32 0 := by simp [part, List.map_const']
    rw [e, ← rep_nv]
  rw [hp0] at hX
  clear hp0
  have HX0 := Lib.hid hX; clear hX
  have HB0 := Lib.hid hB; clear hB
  obtain ⟨A, cap, rfl, h1, h2, h3⟩ := hv
  rw [uv_len] at *
  unfold maxLen at h2
  have HA := Lib.hid h3; clear h3
  have HXX := Lib.hid hx; clear hx
  go_enter Try.func7, Try.ntmps7
  go_wp2
  go_loopw [5, 6] (fun s i wr => ∃ k c : Nat, k ≤ 32 ∧ k ≤ xs.length ∧ i = .int .i64 k ∧ s = .int .i64 c ∧ c ≤ k ∧ Hid (c = cntN (fun j => xs.getD j 0) k) ∧ Hid (Blk wr w.heap.size 3 (nv (part xs k)).toArray) ∧ Hid (Below w.heap.size w wr)) (fun _ i _ => 32 - (intOf i).toNat)
  case atStart => exact ⟨0, 0, by omega, by omega, rfl, rfl, by omega, Lib.hid rfl, HX0, HB0⟩
  case round =>
    obtain ⟨k, c, hk, hkl, rfl, rfl, hck, HC, HX, HB⟩ := hrel
    clear HX0 HB0
    by_cases hlt : k < 32
    · by_cases hll : k < xs.length
      · obtain ⟨b, o, rfl, hb, hcell⟩ := HA.out (by omega)
        have c1 := (below_cells HB.out b _ hb).trans (hcell k _ (uv_at xs k hll))
        have hxk := HXX.out _ (List.getElem_mem hll)
        have hgd : xs.getD k 0 = xs[k] := by rw [List.getD, List.getElem?_eq_getElem hll]; rfl
        have c2 : wr.cell? ⟨w.heap.size, k, none⟩ = some (.int .i64 (((part xs k).getD k 0 : Nat) : Int)) := by rw [HX.out.cell, List.getElem?_toArray]; exact nv_at _ _ (by rw [part_len]; exact hlt)
        have f1 := HX.out.frozen k
        have HX2 : Hid (Blk (wr.setCell ⟨w.heap.size, k, none⟩ (.int .i64 ((xs[k] : Nat) : Int))) w.heap.size 3 (nv (part xs (k + 1))).toArray) := Lib.hid (by
          have := HX.out.put k (.int .i64 ((xs[k] : Nat) : Int))
          rw [← hgd] at this ⊢
          rw [part_set xs k hlt] at this; exact this)
        have HC2 : Hid (cntN (fun j => xs.getD j 0) (k + 1) = c + if 0 < xs[k] then 1 else 0) := Lib.hid (by rw [HC.out, ← hgd]; rfl)
        have HB2 : Hid (Below w.heap.size w (wr.setCell ⟨w.heap.size, k, none⟩ (.int .i64 ((xs[k] : Nat) : Int)))) := Lib.hid (HB.out.setCell (p := ⟨w.heap.size, k, none⟩) (Nat.le_refl _) _)
        have c3 : (wr.setCell ⟨w.heap.size, k, none⟩ (.int .i64 ((xs[k] : Nat) : Int))).cell? ⟨b, o + k, none⟩ = some (.int .u16 ((xs[k] : Nat) : Int)) := (below_cells HB2.out b _ hb).trans (hcell k _ (uv_at xs k hll))
        clear hcell hgd
        generalize (part xs k).getD k 0 = old at *
        generalize xs[k] = y at *
        by_cases hy : 0 < y
        · go_wp2
          go_roundw
          case rel => exact ⟨k + 1, c + 1, by omega, by omega, by go_num, by go_num, by omega, Lib.hid (by rw [HC2.out, if_pos hy]), HX2, HB2⟩
          case measure => simp [intOf]; omega
        · go_wp2
          go_roundw
          case rel => exact ⟨k + 1, c, by omega, by omega, by go_num, rfl, by omega, Lib.hid (by rw [HC2.out, if_neg hy]; rfl), HX2, HB2⟩
          case measure => simp [intOf]; omega
      · have hk32 : 32 = k + (32 - k) := by omega
        have HE : Hid (part xs 32 = part xs k ∧ cntN (fun j => (part xs 32).getD j 0) 32 = c) := Lib.hid ⟨(part_end xs k (by omega)).symm, by
          rw [cnt_congr _ (fun j => xs.getD j 0) 32 (fun j hj => by show (part xs 32).getD j 0 = _; rw [part_at _ _ _ hj, if_pos hj]), hk32, cnt_end xs k _ (by omega), HC.out]⟩
        clear hk32
        go_wp2
        go_ret2
        exact ⟨.slice (some ⟨w.heap.size, 0, none⟩) 32 32, by rw [HE.out.2]; rfl, by rw [HE.out.1]; exact Rd.of_blk HX.out (by rw [nv_len, part_len]) (by rw [nv_len, part_len]; exact Nat.le_refl _) (by unfold maxLen; omega), HB.out⟩
    · obtain rfl : k = 32 := by omega
      have HE : Hid (cntN (fun j => (part xs 32).getD j 0) 32 = c) := Lib.hid (by
          rw [cnt_congr _ (fun j => xs.getD j 0) 32 (fun j hj => by show (part xs 32).getD j 0 = _; rw [part_at _ _ _ hj, if_pos hj]), HC.out])
      go_wp2
      go_ret2
      exact ⟨.slice (some ⟨w.heap.size, 0, none⟩) 32 32, by rw [HE.out]; rfl, Rd.of_blk HX.out (by rw [nv_len, part_len]) (by rw [nv_len, part_len]; exact Nat.le_refl _) (by unfold maxLen; omega), HB.out⟩

set_option maxRecDepth 100000 in
/-- laws.pxWide, where those that are not 0 are at most two apart. -/
theorem wide_any (v : Value) (cs : List Nat) (f s : Nat) (w : World) (hv : Rd w w.heap.size v (nv cs)) (hl : cs.length = 32) (hset : ∀ x, x < 32 → 0 < cs.getD x 0 → x = f ∨ x = s) (hnear : max f s ≤ min f s + 2) :
    Calls Try.prog 9 #[v] w fun e w' => e = .returned (.bool false) ∧ w' = w := by
  obtain ⟨A, cap, rfl, h1, h2, h3⟩ := hv
  rw [nv_len] at *
  rw [hl] at h1 h3 ⊢
  unfold maxLen at h2
  obtain ⟨b, o, rfl, hb, hcell⟩ := h3 (by decide)
  have hcc : ∀ j, j < 32 → w.cell? ⟨b, o + j, none⟩ = some (.int .i64 ((cs.getD j 0 : Nat) : Int)) := fun j hj => hcell j _ (nv_at cs j (by omega))
  clear hcell h3 hl
  have HC := Lib.hid hcc; clear hcc
  have HS := Lib.hid hset; clear hset
  have HN := Lib.hid hnear; clear hnear
  go_enter Try.func9, Try.ntmps9
  go_wp2
  go_loop [3, 4, 5] (fun a z i => ∃ k F L : Nat, k ≤ 32 ∧ F ≤ 32 ∧ L ≤ 32 ∧ i = .int .i64 k ∧ a = .int .i64 F ∧ z = .int .i64 L ∧ Hid (F = 32 ∧ L = 0 ∨ (F = f ∨ F = s) ∧ (L = f ∨ L = s))) (fun _ _ i => 32 - (intOf i).toNat)
  case atStart => exact ⟨0, 32, 0, by omega, by omega, by omega, rfl, rfl, rfl, Lib.hid (.inl ⟨rfl, rfl⟩)⟩
  case round =>
    obtain ⟨k, F, L, hk, hF, hL, rfl, rfl, rfl, HH⟩ := hrel
    by_cases hlt : k < 32
    · have c1 := HC.out k hlt
      have hs := HS.out k hlt
      generalize cs.getD k 0 = y at *
      have HS2 := Lib.hid hs; clear hs
      by_cases hy : 0 < y
      · have HG : Hid ((min F k = f ∨ min F k = s) ∧ (k = f ∨ k = s)) := Lib.hid (by
          have := HS2.out hy
          have := HH.out
          refine ⟨?_, by assumption⟩
          rcases Nat.le_total F k with h | h
          · rw [Nat.min_eq_left h]; omega
          · rw [Nat.min_eq_right h]; omega)
        have hm2 : min F k ≤ 32 := by omega
        go_wp2
        go_round
        case rel => exact ⟨k + 1, min F k, k, by omega, hm2, by omega, by go_num, by split <;> (congr 1; omega), rfl, Lib.hid (.inr HG.out)⟩
        case measure => simp [intOf]; omega
      · go_wp2
        go_round
        case rel => exact ⟨k + 1, F, L, by omega, hF, hL, by go_num, rfl, rfl, HH⟩
        case measure => simp [intOf]; omega
    · obtain rfl : k = 32 := by omega
      have hfl : ¬ (2 : Int) < (L : Int) - (F : Int) := by have := HH.out; have := HN.out; omega
      go_wp2
      go_ret
      exact ⟨rfl, rfl⟩
end Go.Proofs.Ytimfaplnhlnjlaa
