/-
  WALKS: gozxing.BitArray: Reverse.
-/
import Derived.Test.YtjhfebhefclenaaAr6
import Derived.Test.YtjhfebhefclenaaRev
namespace Go.Proofs.Ytjhfebhefclenaa
open Go.RowKit

/-- A list of numbers by a function. -/
def tabW (n : Nat) (f : Nat → Nat) : List Nat := (List.range n).map f
theorem tabW_len (n : Nat) (f : Nat → Nat) : (tabW n f).length = n := by simp [tabW]
theorem tabW_at (n : Nat) (f : Nat → Nat) (i : Nat) (h : i < n) : (tabW n f)[i]'(by rw [tabW_len]; exact h) = f i := by simp [tabW]
theorem tabW_getD (n : Nat) (f : Nat → Nat) (i : Nat) (h : i < n) : (tabW n f).getD i 0 = f i := by
  rw [List.getD, List.getElem?_eq_getElem (by rw [tabW_len]; exact h), Option.getD_some, tabW_at _ _ _ h]
theorem tabW_far (n : Nat) (f : Nat → Nat) (i : Nat) (h : n ≤ i) : (tabW n f).getD i 0 = 0 := by
  rw [List.getD, List.getElem?_eq_none (by rw [tabW_len]; exact h)]; rfl
theorem tabW_set (n : Nat) (f g : Nat → Nat) (k v : Nat) (h1 : ∀ i, i < n → i ≠ k → f i = g i) (h2 : k < n → g k = v) : (tabW n f).set k v = tabW n g := by
  apply List.ext_getElem
  · rw [List.length_set, tabW_len, tabW_len]
  · intro i a b
    rw [tabW_len] at b
    rw [List.getElem_set, tabW_at _ _ _ b, tabW_at _ _ _ b]
    by_cases hki : k = i
    · subst hki; rw [if_pos rfl, h2 b]
    · rw [if_neg hki, h1 i b (fun h => hki h.symm)]
theorem tabW_congr (n : Nat) (f g : Nat → Nat) (h : ∀ i, i < n → f i = g i) : tabW n f = tabW n g := by
  apply List.ext_getElem
  · rw [tabW_len, tabW_len]
  · intro i a b
    rw [tabW_len] at b
    rw [tabW_at _ _ _ b, tabW_at _ _ _ b, h i b]
theorem tabW_lt (n : Nat) (f : Nat → Nat) (h : ∀ i, i < n → f i < 4294967296) : ∀ x ∈ tabW n f, x < 4294967296 := by
  intro x hx
  simp only [tabW, List.mem_map, List.mem_range] at hx
  obtain ⟨i, hi, rfl⟩ := hx
  exact h i hi
theorem tabW_zero (n : Nat) : List.replicate n 0 = tabW n fun _ => 0 := by
  apply List.ext_getElem
  · rw [List.length_replicate, tabW_len]
  · intro i a b
    rw [tabW_len] at b
    rw [List.getElem_replicate, tabW_at _ _ _ b]
/-- The last k words turned round, at their places from the end on. -/
def revF (ws : List Nat) (N k j : Nat) : Nat := if N - 1 - j < k then rev32 (ws.getD (N - 1 - j) 0) else 0
/-- Words shifted down by o bits, those ahead of i - 1. -/
def shF (R : Nat → Nat) (o i j : Nat) : Nat := if j + 1 < i then R j / 2 ^ o ||| R (j + 1) * 2 ^ (32 - o) % 4294967296 else R j
/-- All of them. -/
def shE (R : Nat → Nat) (o N j : Nat) : Nat := if j + 1 < N then R j / 2 ^ o ||| R (j + 1) * 2 ^ (32 - o) % 4294967296 else R j / 2 ^ o
theorem revF_lt (ws : List Nat) (N k j : Nat) (h : ∀ x ∈ ws, x < 4294967296) : revF ws N k j < 4294967296 := by
  unfold revF; split
  · exact rev32_lt _ (getD_lt h _)
  · decide
theorem shift_lt (a b o : Nat) (ha : a < 4294967296) : a / 2 ^ o ||| b * 2 ^ (32 - o) % 4294967296 < 4294967296 := by
  have h1 : a / 2 ^ o ≤ a := Nat.div_le_self _ _
  exact Nat.or_lt_two_pow (n := 32) (by omega) (by omega)
theorem bitR (l : List Bool) (N s : Nat) (hN : N = (l.length + 31) / 32) (hs : s < 32 * N) : (revF (wordsOf l) N N (s / 32)).testBit (s % 32) = l.getD (32 * N - 1 - s) false := by
  unfold revF
  rw [if_pos (by omega), rev32_bit _ _ (getD_lt (wordsOf_lt l) _) (Nat.mod_lt _ (by decide))]
  have := bitW_of l (32 * N - 1 - s)
  unfold bitW at this
  rw [← this, show (32 * N - 1 - s) / 32 = N - 1 - s / 32 by omega, show (32 * N - 1 - s) % 32 = 31 - s % 32 by omega]
theorem reverse_getD (l : List Bool) (i : Nat) : l.reverse.getD i false = (decide (i < l.length) && l.getD (l.length - 1 - i) false) := by
  by_cases h : i < l.length
  · rw [List.getD, List.getElem?_reverse h, List.getD]; simp [h]
  · rw [List.getD, List.getElem?_eq_none (by rw [List.length_reverse]; omega)]; simp [h]
theorem words_rev0 (l : List Bool) (N : Nat) (hN : N = (l.length + 31) / 32) (h0 : l.length = 32 * N) : tabW N (revF (wordsOf l) N N) = wordsOf l.reverse := by
  apply words_of
  · rw [tabW_len, List.length_reverse, hN]
  · exact tabW_lt _ _ fun i _ => revF_lt _ _ _ _ (wordsOf_lt l)
  · intro t
    unfold bitW
    rw [reverse_getD]
    by_cases ht : t < 32 * N
    · rw [tabW_getD _ _ _ (by omega), bitR l N t hN ht, h0]; simp [ht]
    · rw [tabW_far _ _ _ (by omega), Nat.zero_testBit]
      simp; intro h; omega
theorem words_rev1 (l : List Bool) (N o : Nat) (hN : N = (l.length + 31) / 32) (ho : l.length + o = 32 * N) (h1 : 1 ≤ o) : tabW N (shE (revF (wordsOf l) N N) o N) = wordsOf l.reverse := by
  have hlt : ∀ j, revF (wordsOf l) N N j < 4294967296 := fun j => revF_lt _ _ _ _ (wordsOf_lt l)
  have hq : ∀ x, x < 4294967296 → ∀ b, 32 ≤ b → x.testBit b = false := fun x hx b hb => Nat.testBit_lt_two_pow (Nat.lt_of_lt_of_le hx (Nat.pow_le_pow_right (n := 2) (i := 32) (by decide) hb))
  apply words_of
  · rw [tabW_len, List.length_reverse, hN]
  · refine tabW_lt _ _ fun i _ => ?_
    unfold shE
    split
    · exact shift_lt _ _ _ (hlt _)
    · exact Nat.lt_of_le_of_lt (Nat.div_le_self _ _) (hlt _)
  · intro t
    unfold bitW
    rw [reverse_getD]
    by_cases ht : t < 32 * N
    · rw [tabW_getD _ _ _ (by omega)]
      unfold shE
      have hb : t % 32 < 32 := Nat.mod_lt _ (by decide)
      by_cases hc : t % 32 + o < 32
      · have hlo : (revF (wordsOf l) N N (t / 32)).testBit (t % 32 + o) = l.getD (32 * N - 1 - (t + o)) false := by
          rw [← bitR l N (t + o) hN (by omega), show (t + o) / 32 = t / 32 by omega, show (t + o) % 32 = t % 32 + o by omega]
        have hz : (revF (wordsOf l) N N (t / 32 + 1) * 2 ^ (32 - o) % 4294967296).testBit (t % 32) = false := by
          rw [show (4294967296 : Nat) = 2 ^ 32 from rfl, Nat.testBit_mod_two_pow, Nat.testBit_mul_two_pow]
          have : ¬ (32 - o ≤ t % 32) := by omega
          simp [this]
        have e : 32 * N - 1 - (t + o) = l.length - 1 - t := by omega
        have e2 : decide (t < l.length) = true := decide_eq_true (by omega)
        split
        · rw [Nat.testBit_or, Nat.testBit_div_two_pow, hlo, hz, e, e2]; simp
        · rw [Nat.testBit_div_two_pow, hlo, e, e2]; simp
      · have hlo : (revF (wordsOf l) N N (t / 32)).testBit (t % 32 + o) = false := hq _ (hlt _) _ (by omega)
        split
        · have hz : (revF (wordsOf l) N N (t / 32 + 1) * 2 ^ (32 - o) % 4294967296).testBit (t % 32) = l.getD (32 * N - 1 - (t + o)) false := by
            rw [show (4294967296 : Nat) = 2 ^ 32 from rfl, Nat.testBit_mod_two_pow, Nat.testBit_mul_two_pow, ← bitR l N (t + o) hN (by omega), show (t + o) / 32 = t / 32 + 1 by omega, show (t + o) % 32 = t % 32 - (32 - o) by omega]
            have : 32 - o ≤ t % 32 := by omega
            simp [this, hb]
          have e : 32 * N - 1 - (t + o) = l.length - 1 - t := by omega
          have e2 : decide (t < l.length) = true := decide_eq_true (by omega)
          rw [Nat.testBit_or, Nat.testBit_div_two_pow, hlo, hz, e, e2]; simp
        · have e2 : decide (t < l.length) = false := decide_eq_false (by omega)
          rw [Nat.testBit_div_two_pow, hlo, e2]; rfl
    · rw [tabW_far _ _ _ (by omega), Nat.zero_testBit]
      have e2 : decide (t < l.length) = false := decide_eq_false (by omega)
      rw [e2]; rfl
theorem revF_set (ws : List Nat) (N k : Nat) (hk : k < N) : (tabW N (revF ws N k)).set (N - 1 - k) (rev32 (ws.getD k 0)) = tabW N (revF ws N (k + 1)) := by
  apply tabW_set
  · intro i hi hne
    unfold revF
    by_cases h : N - 1 - i < k
    · rw [if_pos h, if_pos (by omega)]
    · rw [if_neg h, if_neg (by omega)]
  · intro _
    unfold revF
    rw [if_pos (by omega), show N - 1 - (N - 1 - k) = k by omega]
theorem shF_set (R : Nat → Nat) (o N i : Nat) (hi : 1 ≤ i) (_hN : i < N) : (tabW N (shF R o i)).set (i - 1) (R (i - 1) / 2 ^ o ||| R i * 2 ^ (32 - o) % 4294967296) = tabW N (shF R o (i + 1)) := by
  apply tabW_set
  · intro j hj hne
    unfold shF
    by_cases h : j + 1 < i
    · rw [if_pos h, if_pos (by omega)]
    · rw [if_neg h, if_neg (by omega)]
  · intro _
    unfold shF
    rw [if_pos (by omega), show i - 1 + 1 = i by omega]
theorem shF_one (R : Nat → Nat) (o N : Nat) : tabW N (shF R o 1) = tabW N R := tabW_congr _ _ _ fun i _ => by unfold shF; rw [if_neg (by omega)]
theorem shF_end (R : Nat → Nat) (o N : Nat) (hN : 1 ≤ N) : (tabW N (shF R o N)).set (N - 1) (R (N - 1) / 2 ^ o) = tabW N (shE R o N) := by
  apply tabW_set
  · intro j hj hne
    unfold shF shE
    rw [if_pos (by omega), if_pos (by omega)]
  · intro _
    unfold shE
    rw [if_neg (by omega)]
set_option maxRecDepth 100000 in
set_option maxHeartbeats 1000000 in
theorem reverseA_any (p g : Nat) (l : List Bool) (w : World) (h : ArrG w p g l l.length) (h1 : 1 ≤ l.length) (hs : l.length ≤ 16384) :
    Calls Try.prog 21 #[.pointer (some ⟨p, 0, none⟩)] w fun e w' => ∃ g', e = .returned (.tuple #[]) ∧ ArrG w' p g' l.reverse l.reverse.length ∧ Off w w' p g ∧ (g' = g ∨ w.heap.size ≤ g') := by
  obtain ⟨N, hN⟩ : ∃ N, N = (l.length + 31) / 32 := ⟨_, rfl⟩
  have hmk := run_mk (P := Try.prog) 51 47 (.int .u32 0) 4 Try.underlying51 (by kernel_rfl) rfl N (by omega) (by omega) w
  have hX := Blk.fresh w 47 (rep N (.int .u32 0))
  have hB := bal (brf w) (.cells (rep N (.int .u32 0)) 47)
  generalize hw1 : (w.alloc (.cells (rep N (.int .u32 0)) 47)) = w1 at *
  clear hw1
  rw [← wv_rep, tabW_zero] at hX
  have HX := Lib.hid (show Blk w1 w.heap.size 47 (wv (tabW N (revF (wordsOf l) N 0))).toArray by
    rw [tabW_congr N (revF (wordsOf l) N 0) (fun _ => 0) fun i _ => by unfold revF; rw [if_neg (Nat.not_lt_zero _)]]; exact hX)
  have HB := Lib.hid hB
  have hplt := h.head.lt
  have hh := h.head
  rw [← hN] at hh
  have HH := Lib.hid hh
  have hr0 := h.rows
  rw [wordsN_self] at hr0
  have HRow := Lib.hid hr0
  have c0 : w.cell? ⟨p, 0, none⟩ = some (.slice (some ⟨g, 0, none⟩) N N) := by rw [hh.cell]; rfl
  have c1 := cell_up (a := ⟨p, 1, none⟩) (v := .int .i64 l.length) (by rw [hh.cell]; rfl) hB
  have hN1 : N ≤ 1000 := by omega
  have hN0 : 1 ≤ N := by omega
  obtain ⟨L1, hL1⟩ : ∃ L1 : Nat, ((l.length : Int) - 1) / 32 = (L1 : Int) ∧ L1 + 1 = N := ⟨N - 1, by omega, by omega⟩
  obtain ⟨e1, e2⟩ := hL1
  have e3 : (L1 : Int) + 1 = (N : Int) := by omega
  have HN := Lib.hid hN
  have hgap : ∃ o, l.length + o = 32 * N ∧ o < 32 := ⟨32 * N - l.length, by omega, by omega⟩
  obtain ⟨o, ho, ho32⟩ := hgap
  have HO := Lib.hid ho
  have HPW := Lib.hid hplt
  clear hX hB h hh hr0 hN ho hplt
  go_enter Try.func21, Try.ntmps21
  go_wp2_with fail
  have HE1 := Lib.hid e1
  clear hmk c0 e1 e3
  go_loopw [5] (fun iv wr => ∃ k : Nat, k ≤ N ∧ iv = .int .i64 k ∧ Hid (Blk wr w.heap.size 47 (wv (tabW N (revF (wordsOf l) N k))).toArray) ∧ Hid (Below w.heap.size w wr)) (fun iv _ => N - (intOf iv).toNat)
  case atStart => exact ⟨0, Nat.zero_le _, rfl, HX, HB⟩
  case round =>
    clear HX HB
    obtain ⟨k, hk, rfl, HX, HB⟩ := hrel
    by_cases hlt : k < N
    · have hwl : (wordsOf l).length = N := by rw [wordsOf_len, HN.out]
      have hp := HH.out.up HB.out
      have hg := HRow.out.up HB.out
      have d0 : wr.cell? ⟨p, 0, none⟩ = some (.slice (some ⟨g, 0, none⟩) N N) := by rw [hp.cell]; rfl
      have d1 : wr.cell? ⟨g, k, none⟩ = some (.int .u32 (((wordsOf l).getD k 0 : Nat) : Int)) := by
        rw [hg.cell, wv_at _ _ (by rw [hwl]; exact hlt), List.getD, List.getElem?_eq_getElem (by rw [hwl]; exact hlt)]; rfl
      have hx := getD_lt (wordsOf_lt l) k
      have hrev := reverse_any ((wordsOf l).getD k 0) wr hx
      have hL : ((l.length : Int) - 1) / 32 - (k : Int) = ((N - 1 - k : Nat) : Int) := by have := HE1.out; omega
      have d2 : wr.cell? ⟨w.heap.size, N - 1 - k, none⟩ = some (.int .u32 ((revF (wordsOf l) N k (N - 1 - k) : Nat) : Int)) := by
        rw [HX.out.cell, wv_at _ _ (by rw [tabW_len]; omega), tabW_at _ _ _ (by omega)]
      have f2 := HX.out.frozen (N - 1 - k)
      have HX2 : Hid (Blk (wr.setCell ⟨w.heap.size, N - 1 - k, none⟩ (.int .u32 ((rev32 ((wordsOf l).getD k 0) : Nat) : Int))) w.heap.size 47 (wv (tabW N (revF (wordsOf l) N (k + 1)))).toArray) := Lib.hid (by
        rw [← revF_set _ _ _ hlt, ← wv_set]; exact HX.out.put _ _)
      have HB2 := Lib.hid (HB.out.setCell (p := ⟨w.heap.size, N - 1 - k, none⟩) (Nat.le_refl _) (.int .u32 ((rev32 ((wordsOf l).getD k 0) : Nat) : Int)))
      have hik : N - 1 - k < N := by omega
      clear HX HB hp hg hwl hx
      generalize revF (wordsOf l) N k (N - 1 - k) = q at *
      generalize rev32 ((wordsOf l).getD k 0) = z at *
      generalize (wordsOf l).getD k 0 = x at *
      generalize N - 1 - k = ix at *
      go_wp2_with fail
      refine hrev.mono ?_
      rintro e wr ⟨rfl, rfl⟩
      go_wp2
      go_roundw
      case rel => exact ⟨k + 1, by omega, by go_num, HX2, HB2⟩
      case measure => simp [intOf]; omega
    · obtain rfl : k = N := by omega
      have hp := HH.out.up HB.out
      have d1 : wr.cell? ⟨p, 1, none⟩ = some (.int .i64 l.length) := by rw [hp.cell]; rfl
      have ho := HO.out
      by_cases ho0 : o = 0
      · have t1 : ((l.length : Int) == (k : Int) * 32) = true := by simp; omega
        have t2 : (l.length : Int) = (k : Int) * 32 := by omega
        have f0 := hp.frozen 0
        have d0 : wr.cell? ⟨p, 0, none⟩ = some (.slice (some ⟨g, 0, none⟩) k k) := by rw [hp.cell]; rfl
        have HP2 := Lib.hid (hp.put 0 (.slice (some ⟨w.heap.size, 0, none⟩) k k))
        have hne : w.heap.size ≠ p := by have := HPW.out; omega
        have HR2 : Hid (Blk (wr.setCell ⟨p, 0, none⟩ (.slice (some ⟨w.heap.size, 0, none⟩) k k)) w.heap.size 47 (wv (wordsOf l.reverse)).toArray) := Lib.hid (by
          rw [← words_rev0 l k HN.out (by have := HO.out; omega)]; exact HX.out.far (p := ⟨p, 0, none⟩) hne _)
        have HO2 := Lib.hid ((Off.of_below HB.out p g).trans (Off.put1 wr p g 0 (.slice (some ⟨w.heap.size, 0, none⟩) k k)))
        clear t2 hp HX HB hk ho ho0
        go_wp2_with fail
        refine bodyPost_end (results_none rfl _ _ _) rfl ?_
        exact ⟨_, rfl, ⟨by rw [List.length_reverse, ← HN.out]; exact HP2.out, by rw [wordsN_self]; exact HR2.out, Nat.le_refl _, Ne.symm hne⟩, HO2.out, .inr (Nat.le_refl _)⟩
      · have t1 : ((l.length : Int) == (k : Int) * 32) = false := by simp; omega
        have t3 : (k : Int) * 32 - (l.length : Int) = (o : Int) := by omega
        have hlR : ∀ j, revF (wordsOf l) k k j < 4294967296 := fun j => revF_lt _ _ _ _ (wordsOf_lt l)
        have HLR := Lib.hid hlR
        have hW1 := words_rev1 l k o HN.out ho (by omega)
        have HW1 := Lib.hid hW1
        have HX1 : Hid (Blk wr w.heap.size 47 (wv (tabW k (shF (revF (wordsOf l) k k) o 1))).toArray) := Lib.hid (by rw [shF_one]; exact HX.out)
        have d2 : wr.cell? ⟨w.heap.size, 0, none⟩ = some (.int .u32 ((revF (wordsOf l) k k 0 : Nat) : Int)) := by
          rw [HX.out.cell, wv_at _ _ (by rw [tabW_len]; omega), tabW_at _ _ _ (by omega)]
        have ho1 : 1 ≤ o := by omega
        clear HX hlR hW1 hp ho ho0
        generalize revF (wordsOf l) k k = R at *
        go_wp2_with fail
        have HO1 := Lib.hid ho1
        clear d2
        go_loopw [7, 8] (fun cv iv wq => ∃ i c : Nat, 1 ≤ i ∧ i ≤ k ∧ iv = .int .i64 i ∧ cv = .int .u32 (c : Int) ∧ Hid (c = R (i - 1) / 2 ^ o) ∧ Hid (Blk wq w.heap.size 47 (wv (tabW k (shF R o i))).toArray) ∧ Hid (Below w.heap.size w wq)) (fun _ iv _ => k - (intOf iv).toNat)
        case atStart => exact ⟨1, R 0 / 2 ^ o, Nat.le_refl _, hN0, rfl, by simp, Lib.hid rfl, HX1, HB⟩
        case round =>
          rename World => wq
          clear HX1 HB
          obtain ⟨i, c, hi1, hik, rfl, rfl, HC, HX, HB⟩ := hrel
          have hc : c < 4294967296 := by rw [HC.out]; exact Nat.lt_of_le_of_lt (Nat.div_le_self _ _) (HLR.out _)
          by_cases hlt2 : i < k
          · obtain ⟨x, hx⟩ : ∃ x, x = R i := ⟨_, rfl⟩
            have hx32 : x < 4294967296 := by rw [hx]; exact HLR.out _
            have d3 : wq.cell? ⟨w.heap.size, i, none⟩ = some (.int .u32 (x : Int)) := by
              rw [HX.out.cell, wv_at _ _ (by rw [tabW_len]; exact hlt2), tabW_at _ _ _ hlt2]
              unfold shF
              rw [if_neg (by omega), hx]
            have him : (i : Int) - 1 = ((i - 1 : Nat) : Int) := by omega
            have him2 : i - 1 < k := by omega
            have d4 : wq.cell? ⟨w.heap.size, i - 1, none⟩ = some (.int .u32 ((shF R o i (i - 1) : Nat) : Int)) := by
              rw [HX.out.cell, wv_at _ _ (by rw [tabW_len]; exact him2), tabW_at _ _ _ him2]
            have f4 := HX.out.frozen (i - 1)
            have hS := shF_set R o k i hi1 hlt2
            rw [← HC.out, ← hx] at hS
            have hor : bits .or .u32 (c : Int) ((x : Int) * (2 : Int) ^ (32 - o) % 4294967296) = ((c ||| x * 2 ^ (32 - o) % 4294967296 : Nat) : Int) := by
              have e : (x : Int) * (2 : Int) ^ (32 - o) % 4294967296 = ((x * 2 ^ (32 - o) % 4294967296 : Nat) : Int) := by simp
              rw [e]; exact u32_or _ _ hc (Nat.mod_lt _ (by decide))
            have hu : (32 : Int) - (o : Int) = ((32 - o : Nat) : Int) := by omega
            have hu2 : 32 - o < 32 := by omega
            have HX2 : Hid (Blk (wq.setCell ⟨w.heap.size, i - 1, none⟩ (.int .u32 ((c ||| x * 2 ^ (32 - o) % 4294967296 : Nat) : Int))) w.heap.size 47 (wv (tabW k (shF R o (i + 1)))).toArray) := Lib.hid (by
              rw [← hS, ← wv_set]; exact HX.out.put _ _)
            have HB2 := Lib.hid (HB.out.setCell (p := ⟨w.heap.size, i - 1, none⟩) (Nat.le_refl _) (.int .u32 ((c ||| x * 2 ^ (32 - o) % 4294967296 : Nat) : Int)))
            have HXX := Lib.hid hx
            clear HX HB hS hx
            generalize shF R o i (i - 1) = q at *
            generalize c ||| x * 2 ^ (32 - o) % 4294967296 = z at *
            generalize 32 - o = s at *
            generalize hj : i - 1 = j at *
            have HJ := Lib.hid hj; clear hj
            go_wp2_with fail
            go_roundw
            case rel => exact ⟨i + 1, x / 2 ^ o, by omega, by omega, by go_num, by simp, Lib.hid (by rw [HXX.out]; rfl), HX2, HB2⟩
            case measure => simp [intOf]; omega
          · obtain rfl : i = k := by omega
            have hk1 : (i : Int) - 1 = ((i - 1 : Nat) : Int) := by omega
            have hik2 : i - 1 < i := by omega
            have d4 : wq.cell? ⟨w.heap.size, i - 1, none⟩ = some (.int .u32 ((shF R o i (i - 1) : Nat) : Int)) := by
              rw [HX.out.cell, wv_at _ _ (by rw [tabW_len]; exact hik2), tabW_at _ _ _ hik2]
            have f4 := HX.out.frozen (i - 1)
            have hE := shF_end R o i hN0
            rw [← HC.out, HW1.out] at hE
            have hX2 : Blk (wq.setCell ⟨w.heap.size, i - 1, none⟩ (.int .u32 (c : Int))) w.heap.size 47 (wv (wordsOf l.reverse)).toArray := by
              rw [← hE, ← wv_set]; exact HX.out.put _ _
            have hB2 := HB.out.setCell (p := ⟨w.heap.size, i - 1, none⟩) (Nat.le_refl _) (.int .u32 (c : Int))
            obtain ⟨w2, hw2⟩ : ∃ w2, w2 = wq.setCell ⟨w.heap.size, i - 1, none⟩ (.int .u32 (c : Int)) := ⟨_, rfl⟩
            rw [← hw2] at hX2 hB2
            have hp2 := HH.out.up hB2
            have d5 : w2.cell? ⟨p, 0, none⟩ = some (.slice (some ⟨g, 0, none⟩) i i) := by rw [hp2.cell]; rfl
            have f5 := hp2.frozen 0
            have hne : w.heap.size ≠ p := by have := HPW.out; omega
            have HP3 := Lib.hid (hp2.put 0 (.slice (some ⟨w.heap.size, 0, none⟩) i i))
            have HX3 := Lib.hid (hX2.far (p := ⟨p, 0, none⟩) hne (.slice (some ⟨w.heap.size, 0, none⟩) i i))
            have HO3 := Lib.hid ((Off.of_below hB2 p g).trans (Off.put1 w2 p g 0 (.slice (some ⟨w.heap.size, 0, none⟩) i i)))
            have HW2 := Lib.hid hw2.symm
            clear hX2 hB2 hp2 hE hw2 HX HB
            generalize shF R o i (i - 1) = q at *
            generalize hj : i - 1 = j at *
            clear hj
            go_wp2_with (with_reducible refine stop_at (o := ⟨some 92, _, _, _, _, _⟩) ?_)
            refine Lib.hid ?_
            rw [HW2.out]
            clear d4 f4
            go_wp2_with fail
            refine bodyPost_end (results_none rfl _ _ _) rfl ?_
            exact ⟨_, rfl, ⟨by rw [List.length_reverse, ← HN.out]; exact HP3.out, by rw [wordsN_self]; exact HX3.out, Nat.le_refl _, Ne.symm hne⟩, HO3.out, .inr (Nat.le_refl _)⟩
end Go.Proofs.Ytjhfebhefclenaa
