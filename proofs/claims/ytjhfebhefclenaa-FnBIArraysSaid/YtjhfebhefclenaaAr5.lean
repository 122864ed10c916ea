/-
  WALKS: gozxing.BitArray: Xor.
-/
import Derived.Test.YtjhfebhefclenaaAr4
namespace Go.Proofs.Ytjhfebhefclenaa
open Go.RowKit

/-- The bits of one list, turned where another one's are set. -/
def xorL (l l2 : List Bool) : List Bool := (List.range l.length).map fun i => (l.getD i false ^^ l2.getD i false)
theorem xorL_len (l l2 : List Bool) : (xorL l l2).length = l.length := by simp [xorL]
theorem getD_map_range (n i : Nat) (f : Nat → Bool) : ((List.range n).map f).getD i false = (decide (i < n) && f i) := by
  rw [List.getD, List.getElem?_map]
  by_cases h : i < n
  · rw [List.getElem?_range h]; simp [h]
  · rw [List.getElem?_eq_none (by simpa using h)]; simp [h]
theorem getD_far (l : List Bool) (i : Nat) (h : l.length ≤ i) : l.getD i false = false := by rw [List.getD, List.getElem?_eq_none h]; rfl
/-- The first k words, turned by others. -/
def xorW (a b : List Nat) (k : Nat) : List Nat := (List.range a.length).map fun i => if i < k then a.getD i 0 ^^^ b.getD i 0 else a.getD i 0
theorem xorW_len (a b : List Nat) (k : Nat) : (xorW a b k).length = a.length := by simp [xorW]
theorem xorW_at (a b : List Nat) (k i : Nat) (h : i < a.length) : (xorW a b k)[i]'(by rw [xorW_len]; exact h) = if i < k then a.getD i 0 ^^^ b.getD i 0 else a.getD i 0 := by simp [xorW]
theorem xorW_zero (a b : List Nat) : xorW a b 0 = a := by
  apply List.ext_getElem (xorW_len _ _ _)
  intro i h1 h2
  rw [xorW_at _ _ _ _ h2, if_neg (Nat.not_lt_zero _), List.getD, List.getElem?_eq_getElem h2]; rfl
theorem xorW_set (a b : List Nat) (k : Nat) (_h : k < a.length) : (xorW a b k).set k (a.getD k 0 ^^^ b.getD k 0) = xorW a b (k + 1) := by
  apply List.ext_getElem
  · rw [List.length_set, xorW_len, xorW_len]
  · intro i h1 h2
    rw [xorW_len] at h2
    rw [List.getElem_set, xorW_at _ _ _ _ h2, xorW_at _ _ _ _ h2]
    by_cases hki : k = i
    · subst hki; rw [if_pos rfl, if_pos (by omega)]
    · rw [if_neg hki]
      by_cases hi : i < k
      · rw [if_pos hi, if_pos (by omega)]
      · rw [if_neg hi, if_neg (by omega)]
theorem words_xor (l l2 : List Bool) (h : l2.length = l.length) : xorW (wordsOf l) (wordsOf l2) (wordsOf l).length = wordsOf (xorL l l2) := by
  apply words_of
  · rw [xorW_len, wordsOf_len, xorL_len]
  · intro x hx
    obtain ⟨i, hi, rfl⟩ := List.getElem_of_mem hx
    rw [xorW_len] at hi
    rw [xorW_at _ _ _ _ hi, if_pos hi]
    exact Nat.xor_lt_two_pow (n := 32) (getD_lt (wordsOf_lt l) _) (getD_lt (wordsOf_lt l2) _)
  · intro i
    have hb1 := bitW_of l i
    have hb2 := bitW_of l2 i
    have hL : (xorL l l2).getD i false = (l.getD i false ^^ l2.getD i false) := by
      unfold xorL
      rw [getD_map_range]
      by_cases hi : i < l.length
      · simp [hi]
      · rw [getD_far l i (by omega), getD_far l2 i (by omega)]; simp
    rw [hL, ← hb1, ← hb2]
    unfold bitW
    by_cases hi : i / 32 < (wordsOf l).length
    · rw [List.getD, List.getElem?_eq_getElem (by rw [xorW_len]; exact hi), Option.getD_some, xorW_at _ _ _ _ hi, if_pos hi, Nat.testBit_xor]
    · have h2 : (wordsOf l2).length = (wordsOf l).length := by rw [wordsOf_len, wordsOf_len, h]
      have e1 : (xorW (wordsOf l) (wordsOf l2) (wordsOf l).length).getD (i / 32) 0 = 0 := by rw [List.getD, List.getElem?_eq_none (by rw [xorW_len]; omega)]; rfl
      have e2 : (wordsOf l).getD (i / 32) 0 = 0 := by rw [List.getD, List.getElem?_eq_none (by omega)]; rfl
      have e3 : (wordsOf l2).getD (i / 32) 0 = 0 := by rw [List.getD, List.getElem?_eq_none (by omega)]; rfl
      rw [e1, e2, e3, Nat.zero_testBit]; rfl
set_option maxRecDepth 100000 in
theorem xor_no (p g q gq : Nat) (l l2 : List Bool) (w : World) (h : ArrG w p g l l.length) (h2 : ArrG w q gq l2 l2.length) (hne : l2.length ≠ l.length) :
    Calls Try.prog 20 #[.pointer (some ⟨p, 0, none⟩), .pointer (some ⟨q, 0, none⟩)] w fun e w' => (∃ T u, e = .returned (.iface T u)) ∧ Below w.heap.size w w' := by
  have c1 : w.cell? ⟨p, 1, none⟩ = some (.int .i64 l.length) := by rw [h.head.cell]; rfl
  have c2 : w.cell? ⟨q, 1, none⟩ = some (.int .i64 l2.length) := by rw [h2.head.cell]; rfl
  have hd : ((l.length : Int) == (l2.length : Int)) = false := by simp; omega
  have hd2 : ((l.length : Int) != (l2.length : Int)) = true := by simp; omega
  have hd3 : ¬ (l.length = l2.length) := by omega
  clear h h2 hne
  go_enter Try.func20, Try.ntmps20
  go_wp2_with fail
  refine Can.wp_region_can (fun w' => w'.cell? ⟨p, 1, none⟩ = some (.int .i64 l.length) ∧ w'.cell? ⟨q, 1, none⟩ = some (.int .i64 l2.length)) 999 [0, 1, 2, 3, 4, 5, 6, 7, 8] (by kernel_rfl) (by kernel_rfl) (fun _ _ d _ _ h => by cases d <;> exact h) ⟨c1, c2⟩ (fun hHeld => ?_)
  repeat (refine Can.can_pure (v := ?_) rfl rfl (Or.inl ⟨by rfl, ?_⟩) ?_; rotate_left; (focus ((intro w hSw); (try dsimp only at hSw); go_simp; (try with_reducible rfl))); (try simp only [Act.put, List.getElem_toArray, List.getElem_cons_succ, List.getElem_cons_zero, List.setIfInBounds_toArray, List.set_cons_zero, List.set_cons_succ]))
  refine Can.can_done ?_
  clear hHeld c1 c2
  go_wp2_with fail
  refine (errNew_any _ _).mono ?_
  rintro e w1 ⟨b, rfl, hb⟩
  go_wp2
  go_ret
  exact ⟨⟨_, _, rfl⟩, (bdr (brf w)).trans (hb.mono (Nat.le_refl _))⟩
set_option maxRecDepth 100000 in
theorem xor_yes (p g q gq : Nat) (l l2 : List Bool) (w : World) (h : ArrG w p g l l.length) (h2 : ArrG w q gq l2 l2.length) (heq : l2.length = l.length) (hs : l.length ≤ 16384) (a1 : q ≠ p) (a2 : q ≠ g) (a3 : gq ≠ p) (a4 : gq ≠ g) :
    Calls Try.prog 20 #[.pointer (some ⟨p, 0, none⟩), .pointer (some ⟨q, 0, none⟩)] w fun e w' => e = .returned .nilIface ∧ ArrG w' p g (xorL l l2) (xorL l l2).length ∧ Off w w' p g := by
  have c1 : w.cell? ⟨p, 1, none⟩ = some (.int .i64 l.length) := by rw [h.head.cell]; rfl
  have c2 : w.cell? ⟨q, 1, none⟩ = some (.int .i64 l.length) := by rw [h2.head.cell, ← heq]; rfl
  have hb := h.bit
  have hb2 := h2.bit
  obtain ⟨A, hA⟩ : ∃ A, A = wordsOf l := ⟨_, rfl⟩
  obtain ⟨B, hB⟩ : ∃ B, B = wordsOf l2 := ⟨_, rfl⟩
  have hBA : B.length = A.length := by rw [hA, hB, wordsOf_len, wordsOf_len, heq]
  have hAl : A.length = (l.length + 31) / 32 := by rw [hA, wordsOf_len]
  have hN : A.length ≤ 1000 := by omega
  have hW := words_xor l l2 heq
  rw [← hA, ← hB] at hW
  have HALT : Hid (∀ i, A.getD i 0 < 2 ^ 32) := Lib.hid (by rw [hA]; exact getD_lt (wordsOf_lt l))
  have HBLT : Hid (∀ i, B.getD i 0 < 2 ^ 32) := Lib.hid (by rw [hB]; exact getD_lt (wordsOf_lt l2))
  rw [← hA] at hb
  rw [← hB] at hb2
  have HHead := Lib.hid hb.head
  have HRows : Hid (Blk w.drew g 47 (wv (xorW A B 0)).toArray) := Lib.hid (by rw [xorW_zero]; exact hb.rows.drew)
  have HQ := Lib.hid hb2.head
  have HQR := Lib.hid hb2.rows
  have HW := Lib.hid hW
  have HBA := Lib.hid hBA
  have HAL := Lib.hid hAl
  have hap := h.apart
  clear h h2 hb hb2 hW hBA hAl hA hB heq
  have hr1 : ((l.length : Int) == (l.length : Int)) = true := by simp
  go_enter Try.func20, Try.ntmps20
  go_wp2_with fail
  refine Can.wp_region_can (fun w' => w'.cell? ⟨p, 1, none⟩ = some (.int .i64 l.length) ∧ w'.cell? ⟨q, 1, none⟩ = some (.int .i64 l.length)) 999 [0, 1, 2, 3, 4, 5, 6, 7, 8] (by kernel_rfl) (by kernel_rfl) (fun _ _ d _ _ h => by cases d <;> exact h) ⟨c1, c2⟩ (fun hHeld => ?_)
  repeat (refine Can.can_pure (v := ?_) rfl rfl (Or.inl ⟨by rfl, ?_⟩) ?_; rotate_left; (focus ((intro w hSw); (try dsimp only at hSw); go_simp; (try with_reducible rfl))); (try simp only [Act.put, List.getElem_toArray, List.getElem_cons_succ, List.getElem_cons_zero, List.setIfInBounds_toArray, List.set_cons_zero, List.set_cons_succ]))
  refine Can.can_done ?_
  clear hHeld c1 c2
  clear hr1
  have HH2 : Hid (Blk w.drew p 53 #[.slice (some ⟨g, 0, none⟩) A.length A.length, .int .i64 l.length]) := Lib.hid HHead.out.drew
  have HO := Lib.hid (Off.drew w p g)
  generalize w.drew = wq at *
  go_wp2_with fail
  go_loopw [5] (fun iv wr => ∃ k : Nat, k ≤ A.length ∧ iv = .int .i64 k ∧ Hid (Blk wr g 47 (wv (xorW A B k)).toArray) ∧ Hid (Blk wr p 53 #[.slice (some ⟨g, 0, none⟩) A.length A.length, .int .i64 l.length]) ∧ wr.cell? ⟨p, 0, none⟩ = some (.slice (some ⟨g, 0, none⟩) A.length A.length) ∧ Hid (Off w wr p g)) (fun iv _ => A.length - (intOf iv).toNat)
  case atStart => exact ⟨0, Nat.zero_le _, rfl, HRows, HH2, (by rw [HH2.out.cell]; rfl), HO⟩
  case round =>
    clear HRows HH2 HO
    obtain ⟨k, hk, rfl, HR, HH, d0, HO⟩ := hrel
    by_cases hlt : k < A.length
    · have hkl : k < (xorW A B k).length := by rw [xorW_len]; exact hlt
      have hkb : k < B.length := by rw [HBA.out]; exact hlt
      have d1 : wr.cell? ⟨g, k, none⟩ = some (.int .u32 ((A.getD k 0 : Nat) : Int)) := by
        rw [HR.out.cell, wv_at _ _ hkl, xorW_at _ _ _ _ hlt, if_neg (Nat.lt_irrefl _)]
      have f1 := HR.out.frozen k
      have hq := HQ.out.off HO.out a1 a2
      have hqr := HQR.out.off HO.out a3 a4
      have d2 : wr.cell? ⟨q, 0, none⟩ = some (.slice (some ⟨gq, 0, none⟩) A.length A.length) := by rw [hq.cell, HBA.out]; rfl
      have d3 : wr.cell? ⟨gq, k, none⟩ = some (.int .u32 ((B.getD k 0 : Nat) : Int)) := by
        rw [hqr.cell, wv_at _ _ hkb, List.getD, List.getElem?_eq_getElem hkb]; rfl
      have hx := HALT.out k
      have hy := HBLT.out k
      have e1 := u32_xor _ _ hx hy
      have HR2 : Hid (Blk (wr.setCell ⟨g, k, none⟩ (.int .u32 ((A.getD k 0 ^^^ B.getD k 0 : Nat) : Int))).drew g 47 (wv (xorW A B (k + 1))).toArray) := Lib.hid (by
        rw [← xorW_set A B k hlt, ← wv_set]; exact (HR.out.put _ _).drew)
      have HH2 := Lib.hid ((HH.out.far (p := ⟨g, k, none⟩) hap (.int .u32 ((A.getD k 0 ^^^ B.getD k 0 : Nat) : Int))).drew)
      have HO2 : Hid (Off w (wr.setCell ⟨g, k, none⟩ (.int .u32 ((A.getD k 0 ^^^ B.getD k 0 : Nat) : Int))).drew p g) := Lib.hid (HO.out.trans ((Off.put2 wr p g k _).trans (Off.drew _ p g)))
      have hd2 := HH2.out.cell 0
      have HD : Hid ((wr.setCell ⟨g, k, none⟩ (.int .u32 ((A.getD k 0 ^^^ B.getD k 0 : Nat) : Int))).drew.cell? ⟨p, 0, none⟩ = some (.slice (some ⟨g, 0, none⟩) A.length A.length)) := Lib.hid hd2
      clear HR hq hqr hkl hkb HH HO hd2
      generalize A.getD k 0 ^^^ B.getD k 0 = z at *
      generalize A.getD k 0 = x at *
      generalize B.getD k 0 = y at *
      go_wp2_with fail
      refine Can.wp_region_can (fun w' => w'.cell? ⟨p, 0, none⟩ = some (.slice (some ⟨g, 0, none⟩) A.length A.length) ∧ w'.cell? ⟨q, 0, none⟩ = some (.slice (some ⟨gq, 0, none⟩) A.length A.length) ∧ w'.cell? ⟨g, k, none⟩ = some (.int .u32 (x : Int)) ∧ w'.cell? ⟨gq, k, none⟩ = some (.int .u32 (y : Int)) ∧ w'.frozen? ⟨g, k, none⟩ = false) 16 [0, 1, 2, 3, 4, 5, 6, 7, 8, 9, 10, 11, 12, 13, 14, 15, 16] (by kernel_rfl) (by kernel_rfl) (fun _ _ d _ _ h => by cases d <;> exact h) ⟨d0, d2, d1, d3, f1⟩ (fun hHeld => ?_)
      repeat (refine Can.can_pure (v := ?_) rfl rfl (Or.inl ⟨by rfl, ?_⟩) ?_; rotate_left; (focus ((intro w hSw); (try dsimp only at hSw); go_simp; (try with_reducible rfl))); (try simp only [Act.put, List.getElem_toArray, List.getElem_cons_succ, List.getElem_cons_zero, List.setIfInBounds_toArray, List.set_cons_zero, List.set_cons_succ]))
      have g0 := hHeld.2.2.2.2
      have g1' := hHeld.2.2.1
      refine Can.can_tail rfl rfl (by rfl) (fun K hK => ?_)
      go_simp
      refine hK.out _ _ ?_
      clear hK K
      clear hHeld g0 g1' e1 d0 d1 d2 d3 f1 hx hy
      go_wp2
      go_roundw
      case rel => exact ⟨k + 1, by omega, by go_num, HR2, HH2, HD.out, HO2⟩
      case measure => simp [intOf]; omega
    · obtain rfl : k = A.length := by omega
      have HR2 : Hid (Blk wr g 47 (wv (wordsOf (xorL l l2))).toArray) := Lib.hid (by rw [← HW.out]; exact HR.out)
      clear HR
      go_wp2
      go_ret
      refine ⟨rfl, ⟨?_, by rw [wordsN_self]; exact HR2.out, Nat.le_refl _, hap⟩, HO.out⟩
      rw [xorL_len, ← HAL.out]; exact HH.out
end Go.Proofs.Ytjhfebhefclenaa
