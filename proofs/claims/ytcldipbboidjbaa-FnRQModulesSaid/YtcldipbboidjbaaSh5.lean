/-
  WALKS: the standard's numbers (spec) of a version: middles of alignment patterns, room.
-/
import Derived.Test.YtcldipbboidjbaaSh4
namespace Go.Proofs.Ytcldipbboidjbaa
open Go.RowKit

theorem info_i64 : (Try.prog.info? 3).map (fun i => (i.zero, i.size, i.bytes)) = some (some (.int .i64 0), 1, 8) := by kernel_rfl
def manyN (v : Nat) : Nat := v / 7 + 2
def quoN (v : Nat) : Nat := (v * 4 + manyN v * 2 + 1) / (manyN v * 2 - 2)
def stepN (v : Nat) : Nat := if v = 32 then 26 else quoN v * 2
def cenI (v i : Nat) : Nat := if i = 0 then 6 else 17 + 4 * v - 7 - stepN v * (manyN v - 1 - i)
def cenS (v : Nat) : List Nat := (List.range (manyN v)).map (cenI v)
def cenOkB (v : Nat) : Bool := decide (cenOf v = if v = 1 then [] else cenS v) && (List.range (manyN v)).all fun i => decide (i = 0) || decide (stepN v * (manyN v - 1 - i) ≤ 17 + 4 * v - 7)
theorem cenOk_all : ((List.range 40).all fun v => cenOkB (v + 1)) = true := by kernel_rfl
theorem cenOk {v : Nat} (h1 : 1 ≤ v) (h2 : v ≤ 40) : (cenOf v = if v = 1 then [] else cenS v) ∧ ∀ i, 1 ≤ i → i < manyN v → stepN v * (manyN v - 1 - i) ≤ 17 + 4 * v - 7 := by
  have h := List.all_eq_true.1 cenOk_all (v - 1) (List.mem_range.2 (by omega))
  rw [Nat.sub_add_cancel h1] at h
  unfold cenOkB at h
  simp only [Bool.and_eq_true, decide_eq_true_eq] at h
  refine ⟨h.1, fun i hi hm => ?_⟩
  have := List.all_eq_true.1 h.2 i (List.mem_range.2 hm)
  simp only [Bool.or_eq_true, decide_eq_true_eq] at this
  rcases this with h | h
  · omega
  · exact h
theorem cenS_len (v : Nat) : (cenS v).length = manyN v := by simp [cenS]
theorem cenS_at (v i : Nat) (h : i < manyN v) : (cenS v)[i]'(by rw [cenS_len]; exact h) = cenI v i := by simp [cenS]
theorem nvl_set (l : List Nat) (i x : Nat) : (nvl l).toArray.setIfInBounds i (.int .i64 (x : Int)) = (nvl (l.set i x)).toArray := by simp [nvl, List.map_set]
theorem nvl_rep (n : Nat) : rep n (.int .i64 0) = (nvl (List.replicate n 0)).toArray := by simp [nvl, rep]
set_option maxRecDepth 100000 in
set_option maxHeartbeats 2000000 in
theorem specCen_any (v : Nat) (w : World) (h1 : 1 ≤ v) (h2 : v ≤ 40) : Calls Try.prog 38 #[.int .i64 (v : Nat)] w fun e w' => ∃ s, e = .returned s ∧ RdT w' 3 s (nvl (cenOf v)) ∧ Below w.heap.size w w' := by
  obtain ⟨hc, hle⟩ := cenOk h1 h2
  by_cases hv1 : v = 1
  · subst hv1
    rw [if_pos rfl] at hc
    rw [hc]
    clear hle
    go_enter Try.func38, Try.ntmps38
    go_wp2
    go_ret
    exact ⟨_, rfl, RdT.nil_ _ _, brf w⟩
  rw [if_neg hv1] at hc
  rw [hc]
  obtain ⟨m, hm⟩ : ∃ m, m = manyN v := ⟨_, rfl⟩
  obtain ⟨st, hst⟩ : ∃ s, s = stepN v := ⟨_, rfl⟩
  obtain ⟨q, hq⟩ : ∃ q, q = quoN v := ⟨_, rfl⟩
  have hm' : m = v / 7 + 2 := hm
  have hm7 : 2 ≤ m ∧ m ≤ 7 := by omega
  obtain ⟨D, hD⟩ : ∃ D, D = m * 2 - 2 := ⟨_, rfl⟩
  obtain ⟨N, hN⟩ : ∃ N, N = v * 4 + m * 2 + 1 := ⟨_, rfl⟩
  have hqq : q = N / D := by rw [hq, hN, hD, hm]; rfl
  have hq2 : q ≤ N := by rw [hqq]; exact Nat.div_le_self _ _
  have eM : (v : Int) / 7 + 2 = (m : Int) := by omega
  have eN : (v : Int) * 4 + (m : Int) * 2 + 1 = (N : Int) := by omega
  have eD : (m : Int) * 2 - 2 = (D : Int) := by omega
  have eQ : (N : Int) / (D : Int) = (q : Int) := by rw [hqq]; simp
  have zD : ((D : Int) == 0) = false := by simp; omega
  have hst2 : st = if v = 32 then 26 else q * 2 := by rw [hst, hq]; rfl
  have hN2 : N ≤ 200 := by omega
  have HLE := Lib.hid hle
  have HM := Lib.hid hm; have HST := Lib.hid hst
  have hmk := run_mk (P := Try.prog) 87 3 (.int .i64 0) 8 Try.underlying87 info_i64 rfl m (by omega) (by omega) w
  rw [nvl_rep] at hmk
  have e2 : ¬ (m : Int) < 0 := by omega
  have h1i : ¬ (v : Int) = 1 := by omega
  clear hc hle hm' hD hN hqq hq
  have HI : Hid (nvl (fillA (cenS v) 0 m 1) = (nvl (List.replicate m 0)).set 0 (.int .i64 6)) := Lib.hid (by
    have h := fill_set (cenS v) 0 m 0 (by rw [cenS_len, ← hm]; omega) (by rw [cenS_len, ← hm]; exact Nat.le_refl _)
    rw [cenS_at v 0 (by rw [← hm]; omega), fill_zero] at h
    rw [← h]
    simp [nvl, List.map_set, cenI])
  have HSL : Hid ((cenS v).length = m) := Lib.hid (by rw [cenS_len, ← hm])
  have HCI : Hid (∀ i, i < m → ∃ h : i < (cenS v).length, (cenS v)[i] = cenI v i) := Lib.hid (fun i hi => ⟨by rw [cenS_len, ← hm]; exact hi, cenS_at v i (by rw [← hm]; exact hi)⟩)
  clear hm hst
  by_cases h32 : v = 32
  · rw [if_pos h32] at hst2
    have e32 : ((v : Int) == 32) = true := by simp [h32]
    have hst26 : (26 : Int) = (st : Int) := by rw [hst2]; rfl
    have hv40 : v ≤ 40 := h2
    have b26 : st ≤ 400 := by omega
    have HV := Lib.hid h32
    clear h32 hst2 eQ hq2
    have c0 : (nvl (List.replicate m 0))[0]? = some (.int .i64 0) := by
      rw [nvl_at _ _ (by rw [List.length_replicate]; omega)]; simp
    go_enter Try.func38, Try.ntmps38
    go_wp2_with fail
    have HX0 : Hid (Blk (w.alloc (Obj.cells ((nvl (List.replicate m 0)).set 0 (.int .i64 6)).toArray 3)) w.heap.size 3 (nvl (fillA (cenS v) 0 m 1)).toArray) := Lib.hid (by rw [HI.out]; exact Blk.fresh w _ _)
    have HB0 := Lib.hid (bal (brf w) (Obj.cells ((nvl (List.replicate m 0)).set 0 (.int .i64 6)).toArray 3))
    (try clear eQ hq2)
    clear hmk c0 HI eM eN eD zD e32 hst26 h1i
    go_loopw [6] (fun iv wr => ∃ i : Nat, 1 ≤ i ∧ i ≤ m ∧ iv = .int .i64 i ∧ Hid (Blk wr w.heap.size 3 (nvl (fillA (cenS v) 0 m i)).toArray) ∧ Hid (Below w.heap.size w wr)) (fun iv _ => m - (intOf iv).toNat)
    case atStart => exact ⟨1, Nat.le_refl _, by omega, rfl, HX0, HB0⟩
    case round =>
      clear HX0 HB0
      obtain ⟨i, hi1, hi2, rfl, HX, HB⟩ := hrel
      by_cases hlt : i < m
      · obtain ⟨k, hk⟩ : ∃ k, k = m - 1 - i := ⟨_, rfl⟩
        have ek : (m : Int) - 1 - (i : Int) = (k : Int) := by omega
        obtain ⟨P, hP⟩ : ∃ P, P = st * k := ⟨_, rfl⟩
        have hPle : P ≤ 17 + 4 * v - 7 := by
          have := HLE.out i hi1 (by rw [← HM.out]; exact hlt)
          rw [← HST.out, ← HM.out, ← hk, ← hP] at this; exact this
        obtain ⟨d, hd⟩ : ∃ d, d = 17 + 4 * v := ⟨_, rfl⟩
        obtain ⟨c, hc⟩ : ∃ c, c = d - 7 - P := ⟨_, rfl⟩
        have eC : (d : Int) - 7 - (P : Int) = (c : Int) := by omega
        have bd : d ≤ 177 := by omega
        have bP : P ≤ 177 := by omega
        obtain ⟨hil, hci⟩ := HCI.out i hlt
        have hci2 : cenI v i = c := by
          unfold cenI
          rw [if_neg (by omega), ← HST.out, ← HM.out, ← hk, ← hP, hc, hd]
        have hset := fill_set (cenS v) 0 m i hil (by rw [HSL.out]; exact Nat.le_refl _)
        rw [hci, hci2] at hset
        have hput := HX.out.put i (.int .i64 (c : Int))
        rw [nvl_set, hset] at hput
        have HX2 := Lib.hid hput
        have HB2 := Lib.hid (HB.out.setCell (p := ⟨w.heap.size, i, none⟩) (Nat.le_refl _) (.int .i64 (c : Int)))
        have cO : wr.cell? ⟨w.heap.size, i, none⟩ = some (.int .i64 0) := by
          rw [HX.out.cell, List.getElem?_toArray]
          unfold nvl
          rw [List.getElem?_map, fill_at_k (cenS v) 0 m i hlt (by rw [HSL.out]; omega)]; rfl
        have fO : wr.frozen? ⟨w.heap.size, i, none⟩ = false := HX.out.frozen _
        have hdd := Lib.hid hd
        have sP : wrap64 ((st : Int) * (k : Int)) = (P : Int) := by
          have : (st : Int) * (k : Int) = (P : Int) := by rw [hP]; simp
          rw [this]; unfold wrap64; omega
        clear hk hP hPle hd hc hci hci2 hset hput hil HX HB
        go_wp2_with fail
        refine (specDim_any v wr (by omega)).mono ?_
        rintro e wr ⟨rfl, rfl⟩
        rw [← hdd.out]
        go_wp2
        clear sP ek eC
        go_roundw
        case rel => exact ⟨i + 1, by omega, by omega, by go_num, HX2, HB2⟩
        case measure => simp [intOf]; omega
      · obtain rfl : i = m := by omega
        have hz : fillA (cenS v) 0 i i = cenS v := by have := fill_full (cenS v) 0; rw [HSL.out] at this; exact this
        have hx := HX.out
        rw [hz] at hx
        have HX2 := Lib.hid hx
        clear hz hx HX
        go_wp2
        go_ret
        exact ⟨_, rfl, RdT.of_blk (g := w.heap.size) HX2.out (by rw [nvl_len, HSL.out]) (by rw [nvl_len, HSL.out]; exact Nat.le_refl _) (by unfold maxLen; omega), HB.out⟩
  · rw [if_neg h32] at hst2
    have e32 : ((v : Int) == 32) = false := by simp; omega
    have hst26 : (q : Int) * 2 = (st : Int) := by omega
    have b26 : st ≤ 400 := by omega
    have hv40 : v ≤ 40 := h2
    clear h32 hst2
    have c0 : (nvl (List.replicate m 0))[0]? = some (.int .i64 0) := by
      rw [nvl_at _ _ (by rw [List.length_replicate]; omega)]; simp
    go_enter Try.func38, Try.ntmps38
    go_wp2_with fail
    have HX0 : Hid (Blk (w.alloc (Obj.cells ((nvl (List.replicate m 0)).set 0 (.int .i64 6)).toArray 3)) w.heap.size 3 (nvl (fillA (cenS v) 0 m 1)).toArray) := Lib.hid (by rw [HI.out]; exact Blk.fresh w _ _)
    have HB0 := Lib.hid (bal (brf w) (Obj.cells ((nvl (List.replicate m 0)).set 0 (.int .i64 6)).toArray 3))
    (try clear eQ hq2)
    clear hmk c0 HI eM eN eD zD e32 hst26 h1i
    go_loopw [6] (fun iv wr => ∃ i : Nat, 1 ≤ i ∧ i ≤ m ∧ iv = .int .i64 i ∧ Hid (Blk wr w.heap.size 3 (nvl (fillA (cenS v) 0 m i)).toArray) ∧ Hid (Below w.heap.size w wr)) (fun iv _ => m - (intOf iv).toNat)
    case atStart => exact ⟨1, Nat.le_refl _, by omega, rfl, HX0, HB0⟩
    case round =>
      clear HX0 HB0
      obtain ⟨i, hi1, hi2, rfl, HX, HB⟩ := hrel
      by_cases hlt : i < m
      · obtain ⟨k, hk⟩ : ∃ k, k = m - 1 - i := ⟨_, rfl⟩
        have ek : (m : Int) - 1 - (i : Int) = (k : Int) := by omega
        obtain ⟨P, hP⟩ : ∃ P, P = st * k := ⟨_, rfl⟩
        have hPle : P ≤ 17 + 4 * v - 7 := by
          have := HLE.out i hi1 (by rw [← HM.out]; exact hlt)
          rw [← HST.out, ← HM.out, ← hk, ← hP] at this; exact this
        obtain ⟨d, hd⟩ : ∃ d, d = 17 + 4 * v := ⟨_, rfl⟩
        obtain ⟨c, hc⟩ : ∃ c, c = d - 7 - P := ⟨_, rfl⟩
        have eC : (d : Int) - 7 - (P : Int) = (c : Int) := by omega
        have bd : d ≤ 177 := by omega
        have bP : P ≤ 177 := by omega
        obtain ⟨hil, hci⟩ := HCI.out i hlt
        have hci2 : cenI v i = c := by
          unfold cenI
          rw [if_neg (by omega), ← HST.out, ← HM.out, ← hk, ← hP, hc, hd]
        have hset := fill_set (cenS v) 0 m i hil (by rw [HSL.out]; exact Nat.le_refl _)
        rw [hci, hci2] at hset
        have hput := HX.out.put i (.int .i64 (c : Int))
        rw [nvl_set, hset] at hput
        have HX2 := Lib.hid hput
        have HB2 := Lib.hid (HB.out.setCell (p := ⟨w.heap.size, i, none⟩) (Nat.le_refl _) (.int .i64 (c : Int)))
        have cO : wr.cell? ⟨w.heap.size, i, none⟩ = some (.int .i64 0) := by
          rw [HX.out.cell, List.getElem?_toArray]
          unfold nvl
          rw [List.getElem?_map, fill_at_k (cenS v) 0 m i hlt (by rw [HSL.out]; omega)]; rfl
        have fO : wr.frozen? ⟨w.heap.size, i, none⟩ = false := HX.out.frozen _
        have hdd := Lib.hid hd
        have sP : wrap64 ((st : Int) * (k : Int)) = (P : Int) := by
          have : (st : Int) * (k : Int) = (P : Int) := by rw [hP]; simp
          rw [this]; unfold wrap64; omega
        clear hk hP hPle hd hc hci hci2 hset hput hil HX HB
        go_wp2_with fail
        refine (specDim_any v wr (by omega)).mono ?_
        rintro e wr ⟨rfl, rfl⟩
        rw [← hdd.out]
        go_wp2
        clear sP ek eC
        go_roundw
        case rel => exact ⟨i + 1, by omega, by omega, by go_num, HX2, HB2⟩
        case measure => simp [intOf]; omega
      · obtain rfl : i = m := by omega
        have hz : fillA (cenS v) 0 i i = cenS v := by have := fill_full (cenS v) 0; rw [HSL.out] at this; exact this
        have hx := HX.out
        rw [hz] at hx
        have HX2 := Lib.hid hx
        clear hz hx HX
        go_wp2
        go_ret
        exact ⟨_, rfl, RdT.of_blk (g := w.heap.size) HX2.out (by rw [nvl_len, HSL.out]) (by rw [nvl_len, HSL.out]; exact Nat.le_refl _) (by unfold maxLen; omega), HB.out⟩
end Go.Proofs.Ytcldipbboidjbaa
