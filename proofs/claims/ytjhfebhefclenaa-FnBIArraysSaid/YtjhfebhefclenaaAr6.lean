/-
  WALKS: gozxing.BitArray: SetRange.
-/
import Derived.Test.YtjhfebhefclenaaAr5
namespace Go.Proofs.Ytjhfebhefclenaa
open Go.RowKit

/-- The bits from a on and ahead of b are set. -/
def rangeL (l : List Bool) (a b : Nat) : List Bool := (List.range l.length).map fun i => l.getD i false || (decide (a ≤ i) && decide (i < b))
theorem rangeL_len (l : List Bool) (a b : Nat) : (rangeL l a b).length = l.length := by simp [rangeL]
theorem rangeL_at (l : List Bool) (a b i : Nat) (hb : b ≤ l.length) : (rangeL l a b).getD i false = (l.getD i false || (decide (a ≤ i) && decide (i < b))) := by
  unfold rangeL
  rw [getD_map_range]
  by_cases h : i < l.length
  · simp [h]
  · have : decide (i < b) = false := by simp; omega
    rw [this, getD_far l i (by omega)]; simp
theorem rangeL_none (l : List Bool) (a : Nat) : rangeL l a a = l := by
  apply List.ext_getElem (rangeL_len _ _ _)
  intro i h1 h2
  have : (decide (a ≤ i) && decide (i < a)) = false := by rw [Bool.eq_false_iff]; simp
  simp [rangeL, this, h2]
/-- Bits n to m. -/
def maskN (m n : Nat) : Nat := 2 ^ (m + 1) - 2 ^ n
theorem maskN_bit (m n j : Nat) (h : n ≤ m) : (maskN m n).testBit j = (decide (n ≤ j) && decide (j ≤ m)) := by
  unfold maskN
  have e : 2 ^ (m + 1) - 2 ^ n = 2 ^ n * (2 ^ (m + 1 - n) - 1) := by
    rw [Nat.mul_sub, ← Nat.pow_add, Nat.mul_one]
    congr 2; omega
  rw [e, Nat.testBit_two_pow_mul, Nat.testBit_two_pow_sub_one, Bool.eq_iff_iff]
  simp; omega
theorem maskN_lt (m n : Nat) (h : m < 32) : maskN m n < 4294967296 := by
  unfold maskN
  have : 2 ^ (m + 1) ≤ 2 ^ 32 := Nat.pow_le_pow_right (by decide) (by omega)
  have h2 : 0 < 2 ^ n := Nat.two_pow_pos n
  omega
/-- A word with more bits. -/
def orW (ws : List Nat) (i v : Nat) : List Nat := ws.set i (ws.getD i 0 ||| v)
theorem orW_len (ws : List Nat) (i v : Nat) : (orW ws i v).length = ws.length := by simp [orW]
theorem orW_bit (ws : List Nat) (k v i : Nat) (hk : k < ws.length) : bitW (orW ws k v) i = (bitW ws i || (decide (k = i / 32) && v.testBit (i % 32))) := by
  unfold bitW orW
  by_cases h : k = i / 32
  · rw [List.getD, h, List.getElem?_set_self (by omega), Option.getD_some, Nat.testBit_or]; simp
  · rw [List.getD, List.getElem?_set_ne h, List.getD]; simp [h]
theorem orW_lt {ws : List Nat} {k v : Nat} (h : ∀ x ∈ ws, x < 4294967296) (hv : v < 4294967296) : ∀ x ∈ orW ws k v, x < 4294967296 := by
  intro x hx
  rcases List.mem_or_eq_of_mem_set hx with hx | hx
  · exact h x hx
  · rw [hx]; exact Nat.or_lt_two_pow (n := 32) (getD_lt h _) hv
/-- The words, behind the words ahead of k (those from a/32 on) took their bits of a to b. -/
def upto (a b k : Nat) : Nat := if 32 * k ≤ a then a else min (32 * k) b
theorem words_range (l : List Bool) (a b : Nat) (k : Nat) (fb lb : Nat) (hab : a < b) (hb : b ≤ l.length) (hk1 : a / 32 ≤ k) (hk2 : k ≤ (b - 1) / 32) (hfb : fb = if k = a / 32 then a % 32 else 0) (hlb : lb = if k = (b - 1) / 32 then (b - 1) % 32 else 31) :
    orW (wordsOf (rangeL l a (upto a b k))) k (maskN lb fb) = wordsOf (rangeL l a (upto a b (k + 1))) := by
  have hu1 : upto a b k ≤ b := by unfold upto; split <;> omega
  have hu2 : upto a b (k + 1) ≤ b := by unfold upto; split <;> omega
  have hfl : fb ≤ lb := by rw [hfb, hlb]; split <;> split <;> omega
  have hl32 : lb < 32 := by rw [hlb]; split <;> omega
  apply words_of
  · rw [orW_len, wordsOf_len, rangeL_len, rangeL_len]
  · exact orW_lt (wordsOf_lt _) (maskN_lt _ _ hl32)
  · intro i
    rw [orW_bit _ _ _ _ (by rw [wordsOf_len, rangeL_len]; omega), bitW_of, rangeL_at _ _ _ _ (by omega), rangeL_at _ _ _ _ (by omega), maskN_bit _ _ _ hfl, Bool.or_assoc]
    congr 1
    rw [Bool.eq_iff_iff]
    simp only [Bool.or_eq_true, Bool.and_eq_true, decide_eq_true_eq]
    subst hfb hlb
    unfold upto
    split <;> split <;> split <;> split <;> omega
theorem mask_facts (lb fb : Nat) (h : lb < 32) (hf : fb ≤ lb) : ∃ A B : Nat, wrap64 (2 * (2 : Int) ^ lb) = (A : Int) ∧ wrap64 ((2 : Int) ^ fb) = (B : Int) ∧ (A : Int) - (B : Int) = ((maskN lb fb : Nat) : Int) ∧ maskN lb fb < 4294967296 ∧ A = 2 ^ (lb + 1) ∧ B = 2 ^ fb ∧ A ≤ 4294967296 ∧ B ≤ A := by
  have h1 : 2 ^ (lb + 1) ≤ 2 ^ 32 := Nat.pow_le_pow_right (by decide) (by omega)
  have h2 : 2 ^ fb ≤ 2 ^ (lb + 1) := Nat.pow_le_pow_right (by decide) (by omega)
  have e1 : 2 * (2 : Int) ^ lb = ((2 ^ (lb + 1) : Nat) : Int) := by rw [Nat.pow_succ, Nat.mul_comm]; simp
  have e2 : (2 : Int) ^ fb = ((2 ^ fb : Nat) : Int) := by simp
  have h3 := maskN_lt lb fb h
  have h4 : maskN lb fb = 2 ^ (lb + 1) - 2 ^ fb := rfl
  refine ⟨2 ^ (lb + 1), 2 ^ fb, ?_, ?_, ?_, h3, rfl, rfl, h1, h2⟩
  · rw [e1]; generalize 2 ^ (lb + 1) = A at *; unfold wrap64; omega
  · rw [e2]; generalize 2 ^ (lb + 1) = A at *; generalize 2 ^ fb = B at *; unfold wrap64; omega
  · rw [h4]; generalize 2 ^ (lb + 1) = A at *; generalize 2 ^ fb = B at *; omega
set_option maxRecDepth 100000 in
theorem setRange_no (p g : Nat) (a b : Int) (l : List Bool) (w : World) (h : ArrG w p g l l.length) (hc : b < a ∨ a < 0 ∨ (l.length : Int) < b) :
    Calls Try.prog 15 #[.pointer (some ⟨p, 0, none⟩), .int .i64 a, .int .i64 b] w fun e w' => (∃ T u, e = .returned (.iface T u)) ∧ Below w.heap.size w w' := by
  have c1 : w.cell? ⟨p, 1, none⟩ = some (.int .i64 l.length) := by rw [h.head.cell]; rfl
  clear h
  by_cases h1 : b < a
  · go_enter Try.func15, Try.ntmps15
    go_wp2_with fail
    refine (errNew_any _ w).mono ?_
    rintro e w1 ⟨b, rfl, hb⟩
    go_wp2
    go_ret
    exact ⟨⟨_, _, rfl⟩, hb⟩
  · by_cases h2 : a < 0
    · go_enter Try.func15, Try.ntmps15
      go_wp2_with fail
      refine (errNew_any _ w).mono ?_
      rintro e w1 ⟨b, rfl, hb⟩
      go_wp2
      go_ret
      exact ⟨⟨_, _, rfl⟩, hb⟩
    · have h3 : (l.length : Int) < b := by omega
      go_enter Try.func15, Try.ntmps15
      go_wp2_with fail
      refine (errNew_any _ w).mono ?_
      rintro e w1 ⟨b, rfl, hb⟩
      go_wp2
      go_ret
      exact ⟨⟨_, _, rfl⟩, hb⟩
set_option maxRecDepth 100000 in
theorem setRange_yes (p g a b : Nat) (l : List Bool) (w : World) (h : ArrG w p g l l.length) (hs : l.length ≤ 16384) (hab : a ≤ b) (hb : b ≤ l.length) :
    Calls Try.prog 15 #[.pointer (some ⟨p, 0, none⟩), .int .i64 a, .int .i64 b] w fun e w' => e = .returned .nilIface ∧ ArrG w' p g (rangeL l a b) (rangeL l a b).length ∧ Off w w' p g := by
  have c1 : w.cell? ⟨p, 1, none⟩ = some (.int .i64 l.length) := by rw [h.head.cell]; rfl
  by_cases heq : a = b
  · subst heq
    have HA := Lib.hid h
    clear h
    go_enter Try.func15, Try.ntmps15
    go_wp2
    go_ret
    exact ⟨rfl, by rw [rangeL_none]; exact HA.out, Off.refl _ _ _⟩
  · have hlt : a < b := by omega
    have hM : (l.length + 31) / 32 ≤ 1000 := by omega
    have HM : Hid (∀ k, k ≤ (b - 1) / 32 → k < (l.length + 31) / 32) := Lib.hid (fun k hk => by omega)
    have HH := Lib.hid h.head
    have HR : Hid (Blk w g 47 (wv (wordsOf (rangeL l a (upto a b (a / 32))))).toArray) := Lib.hid (by
      have e : upto a b (a / 32) = a := by unfold upto; rw [if_pos (by omega)]
      have h2 := h.rows
      rw [e, rangeL_none]; rwa [wordsN_self] at h2)
    have c0 : w.cell? ⟨p, 0, none⟩ = some (.slice (some ⟨g, 0, none⟩) ((l.length + 31) / 32) ((l.length + 31) / 32)) := by rw [h.head.cell]; rfl
    have hap := h.apart
    clear h
    generalize hM' : (l.length + 31) / 32 = M at *
    have HML := Lib.hid hM'; clear hM'
    obtain ⟨fi, hfi⟩ : ∃ x, x = a / 32 := ⟨_, rfl⟩
    obtain ⟨b1, hb1⟩ : ∃ x, x = b - 1 := ⟨_, rfl⟩
    obtain ⟨li, hli⟩ : ∃ x, x = b1 / 32 := ⟨_, rfl⟩
    obtain ⟨fa, hfa⟩ : ∃ x, x = a % 32 := ⟨_, rfl⟩
    obtain ⟨lb1, hlb1⟩ : ∃ x, x = b1 % 32 := ⟨_, rfl⟩
    have e1 : (a : Int) / 32 = (fi : Int) := by omega
    have e2 : (b : Int) - 1 = (b1 : Int) := by omega
    have e3 : (b1 : Int) / 32 = (li : Int) := by omega
    have HST : Hid (∀ k fb lb, fi ≤ k → k ≤ li → (fb = if k = fi then fa else 0) → (lb = if k = li then lb1 else 31) → orW (wordsOf (rangeL l a (upto a b k))) k (maskN lb fb) = wordsOf (rangeL l a (upto a b (k + 1))) ∧ fb < 32 ∧ lb < 32 ∧ fb ≤ lb) := Lib.hid (fun k fb lb h1 h2 h3 h4 => by
      rw [hfi, hfa] at h3
      rw [hli, hb1, hlb1, hb1] at h4
      rw [hfi] at h1
      rw [hli, hb1] at h2
      exact ⟨words_range l a b k fb lb hlt hb h1 h2 h3 h4, by rw [h3]; split <;> omega, by rw [h4]; split <;> omega, by rw [h3, h4]; split <;> split <;> omega⟩)
    have E4 := Lib.hid (show (a : Int) % 32 = (fa : Int) by omega)
    have E5 := Lib.hid (show (b1 : Int) % 32 = (lb1 : Int) by omega)
    have hfl : fi ≤ li := by omega
    have hliM := HM.out li (by omega)
    have HEnd : Hid (upto a b (li + 1) = b) := Lib.hid (by unfold upto; rw [if_neg (by omega)]; omega)
    rw [← hfi] at HR
    clear HM hfi hli hfa hlb1 hb1
    go_enter Try.func15, Try.ntmps15
    go_wp2_with fail
    clear e1 e2 e3
    go_loopw [9] (fun iv wr => ∃ k : Nat, fi ≤ k ∧ k ≤ li + 1 ∧ iv = .int .i64 k ∧ Hid (Blk wr g 47 (wv (wordsOf (rangeL l a (upto a b k)))).toArray) ∧ Hid (Blk wr p 53 #[.slice (some ⟨g, 0, none⟩) M M, .int .i64 l.length]) ∧ wr.cell? ⟨p, 0, none⟩ = some (.slice (some ⟨g, 0, none⟩) M M) ∧ Hid (Off w wr p g)) (fun iv _ => li + 1 - (intOf iv).toNat)
    case atStart => exact ⟨fi, Nat.le_refl _, by omega, rfl, HR, HH, c0, Lib.hid (Off.refl _ _ _)⟩
    case round =>
      clear HR HH c0
      obtain ⟨k, hk1, hk2, rfl, HR, HH, c0, HO⟩ := hrel
      by_cases hkl : k ≤ li
      · have e4 := E4.out
        have e5 := E5.out
        by_cases hka : k = fi
        · have t1 : ((k : Int) == (fi : Int)) = true := by simp; omega
          by_cases hkb : k = li
          · have t2 : ((k : Int) == (li : Int)) = true := by simp; omega
            have hst := HST.out k fa lb1 hk1 hkl (by rw [if_pos hka]) (by rw [if_pos hkb])
            clear hka hkb
            obtain ⟨HS, q1, q2, q3⟩ := hst
            obtain ⟨A, B, m1, m2, m3, m4, m5, m6, m7, m8⟩ := mask_facts _ _ q2 q3
            have hkM : k < M := by omega
            have hwl : (wordsOf (rangeL l a (upto a b k))).length = M := by rw [wordsOf_len, rangeL_len]; exact HML.out
            have d1 : wr.cell? ⟨g, k, none⟩ = some (.int .u32 (((wordsOf (rangeL l a (upto a b k))).getD k 0 : Nat) : Int)) := by
              rw [HR.out.cell, wv_at _ _ (by rw [hwl]; exact hkM), List.getD, List.getElem?_eq_getElem (by rw [hwl]; exact hkM)]; rfl
            have f1 := HR.out.frozen k
            have hx := getD_lt (wordsOf_lt (rangeL l a (upto a b k))) k
            have hor := u32_or _ _ hx m4
            have HR2 : Hid (Blk (wr.setCell ⟨g, k, none⟩ (.int .u32 (((wordsOf (rangeL l a (upto a b k))).getD k 0 ||| maskN lb1 fa : Nat) : Int))) g 47 (wv (wordsOf (rangeL l a (upto a b (k + 1))))).toArray) := Lib.hid (by
              rw [← HS, orW, ← wv_set]; exact HR.out.put _ _)
            have HH2 := Lib.hid (HH.out.far (p := ⟨g, k, none⟩) hap (.int .u32 (((wordsOf (rangeL l a (upto a b k))).getD k 0 ||| maskN lb1 fa : Nat) : Int)))
            have HO2 := Lib.hid (HO.out.trans (Off.put2 wr p g k (.int .u32 (((wordsOf (rangeL l a (upto a b k))).getD k 0 ||| maskN lb1 fa : Nat) : Int))))
            have HD : Hid ((wr.setCell ⟨g, k, none⟩ (.int .u32 (((wordsOf (rangeL l a (upto a b k))).getD k 0 ||| maskN lb1 fa : Nat) : Int))).cell? ⟨p, 0, none⟩ = some (.slice (some ⟨g, 0, none⟩) M M)) := Lib.hid (HH2.out.cell 0)
            clear HR HH HO HS hwl
            generalize (wordsOf (rangeL l a (upto a b k))).getD k 0 ||| maskN lb1 fa = z at *
            generalize (wordsOf (rangeL l a (upto a b k))).getD k 0 = x at *
            generalize maskN lb1 fa = mk at *
            clear m5 m6
            go_wp2_with fail
            go_roundw
            case rel => exact ⟨k + 1, by omega, by omega, by go_num, HR2, HH2, HD.out, HO2⟩
            case measure => simp [intOf]; omega
          · have t2 : ((k : Int) == (li : Int)) = false := by simp; omega
            have hst := HST.out k fa 31 hk1 hkl (by rw [if_pos hka]) (by rw [if_neg hkb])
            clear hka hkb
            obtain ⟨HS, q1, q2, q3⟩ := hst
            obtain ⟨A, B, m1, m2, m3, m4, m5, m6, m7, m8⟩ := mask_facts _ _ q2 q3
            have hkM : k < M := by omega
            have hwl : (wordsOf (rangeL l a (upto a b k))).length = M := by rw [wordsOf_len, rangeL_len]; exact HML.out
            have d1 : wr.cell? ⟨g, k, none⟩ = some (.int .u32 (((wordsOf (rangeL l a (upto a b k))).getD k 0 : Nat) : Int)) := by
              rw [HR.out.cell, wv_at _ _ (by rw [hwl]; exact hkM), List.getD, List.getElem?_eq_getElem (by rw [hwl]; exact hkM)]; rfl
            have f1 := HR.out.frozen k
            have hx := getD_lt (wordsOf_lt (rangeL l a (upto a b k))) k
            have hor := u32_or _ _ hx m4
            have HR2 : Hid (Blk (wr.setCell ⟨g, k, none⟩ (.int .u32 (((wordsOf (rangeL l a (upto a b k))).getD k 0 ||| maskN 31 fa : Nat) : Int))) g 47 (wv (wordsOf (rangeL l a (upto a b (k + 1))))).toArray) := Lib.hid (by
              rw [← HS, orW, ← wv_set]; exact HR.out.put _ _)
            have HH2 := Lib.hid (HH.out.far (p := ⟨g, k, none⟩) hap (.int .u32 (((wordsOf (rangeL l a (upto a b k))).getD k 0 ||| maskN 31 fa : Nat) : Int)))
            have HO2 := Lib.hid (HO.out.trans (Off.put2 wr p g k (.int .u32 (((wordsOf (rangeL l a (upto a b k))).getD k 0 ||| maskN 31 fa : Nat) : Int))))
            have HD : Hid ((wr.setCell ⟨g, k, none⟩ (.int .u32 (((wordsOf (rangeL l a (upto a b k))).getD k 0 ||| maskN 31 fa : Nat) : Int))).cell? ⟨p, 0, none⟩ = some (.slice (some ⟨g, 0, none⟩) M M)) := Lib.hid (HH2.out.cell 0)
            clear HR HH HO HS hwl
            generalize (wordsOf (rangeL l a (upto a b k))).getD k 0 ||| maskN 31 fa = z at *
            generalize (wordsOf (rangeL l a (upto a b k))).getD k 0 = x at *
            generalize maskN 31 fa = mk at *
            obtain rfl : A = 4294967296 := m5
            have m9 : (4294967296 : Int) - (B : Int) = (mk : Int) := by omega
            clear m6 m3
            go_wp2_with fail
            go_roundw
            case rel => exact ⟨k + 1, by omega, by omega, by go_num, HR2, HH2, HD.out, HO2⟩
            case measure => simp [intOf]; omega
        · have t1 : ((k : Int) == (fi : Int)) = false := by simp; omega
          by_cases hkb : k = li
          · have t2 : ((k : Int) == (li : Int)) = true := by simp; omega
            have hst := HST.out k 0 lb1 hk1 hkl (by rw [if_neg hka]) (by rw [if_pos hkb])
            clear hka hkb
            obtain ⟨HS, q1, q2, q3⟩ := hst
            obtain ⟨A, B, m1, m2, m3, m4, m5, m6, m7, m8⟩ := mask_facts _ _ q2 q3
            have hkM : k < M := by omega
            have hwl : (wordsOf (rangeL l a (upto a b k))).length = M := by rw [wordsOf_len, rangeL_len]; exact HML.out
            have d1 : wr.cell? ⟨g, k, none⟩ = some (.int .u32 (((wordsOf (rangeL l a (upto a b k))).getD k 0 : Nat) : Int)) := by
              rw [HR.out.cell, wv_at _ _ (by rw [hwl]; exact hkM), List.getD, List.getElem?_eq_getElem (by rw [hwl]; exact hkM)]; rfl
            have f1 := HR.out.frozen k
            have hx := getD_lt (wordsOf_lt (rangeL l a (upto a b k))) k
            have hor := u32_or _ _ hx m4
            have HR2 : Hid (Blk (wr.setCell ⟨g, k, none⟩ (.int .u32 (((wordsOf (rangeL l a (upto a b k))).getD k 0 ||| maskN lb1 0 : Nat) : Int))) g 47 (wv (wordsOf (rangeL l a (upto a b (k + 1))))).toArray) := Lib.hid (by
              rw [← HS, orW, ← wv_set]; exact HR.out.put _ _)
            have HH2 := Lib.hid (HH.out.far (p := ⟨g, k, none⟩) hap (.int .u32 (((wordsOf (rangeL l a (upto a b k))).getD k 0 ||| maskN lb1 0 : Nat) : Int)))
            have HO2 := Lib.hid (HO.out.trans (Off.put2 wr p g k (.int .u32 (((wordsOf (rangeL l a (upto a b k))).getD k 0 ||| maskN lb1 0 : Nat) : Int))))
            have HD : Hid ((wr.setCell ⟨g, k, none⟩ (.int .u32 (((wordsOf (rangeL l a (upto a b k))).getD k 0 ||| maskN lb1 0 : Nat) : Int))).cell? ⟨p, 0, none⟩ = some (.slice (some ⟨g, 0, none⟩) M M)) := Lib.hid (HH2.out.cell 0)
            clear HR HH HO HS hwl
            generalize (wordsOf (rangeL l a (upto a b k))).getD k 0 ||| maskN lb1 0 = z at *
            generalize (wordsOf (rangeL l a (upto a b k))).getD k 0 = x at *
            generalize maskN lb1 0 = mk at *
            obtain rfl : B = 1 := m6
            have m9 : (A : Int) - 1 = (mk : Int) := by omega
            clear m5 m3
            go_wp2_with fail
            go_roundw
            case rel => exact ⟨k + 1, by omega, by omega, by go_num, HR2, HH2, HD.out, HO2⟩
            case measure => simp [intOf]; omega
          · have t2 : ((k : Int) == (li : Int)) = false := by simp; omega
            have hst := HST.out k 0 31 hk1 hkl (by rw [if_neg hka]) (by rw [if_neg hkb])
            clear hka hkb
            obtain ⟨HS, q1, q2, q3⟩ := hst
            obtain ⟨A, B, m1, m2, m3, m4, m5, m6, m7, m8⟩ := mask_facts _ _ q2 q3
            have hkM : k < M := by omega
            have hwl : (wordsOf (rangeL l a (upto a b k))).length = M := by rw [wordsOf_len, rangeL_len]; exact HML.out
            have d1 : wr.cell? ⟨g, k, none⟩ = some (.int .u32 (((wordsOf (rangeL l a (upto a b k))).getD k 0 : Nat) : Int)) := by
              rw [HR.out.cell, wv_at _ _ (by rw [hwl]; exact hkM), List.getD, List.getElem?_eq_getElem (by rw [hwl]; exact hkM)]; rfl
            have f1 := HR.out.frozen k
            have hx := getD_lt (wordsOf_lt (rangeL l a (upto a b k))) k
            have hor := u32_or _ _ hx m4
            have HR2 : Hid (Blk (wr.setCell ⟨g, k, none⟩ (.int .u32 (((wordsOf (rangeL l a (upto a b k))).getD k 0 ||| maskN 31 0 : Nat) : Int))) g 47 (wv (wordsOf (rangeL l a (upto a b (k + 1))))).toArray) := Lib.hid (by
              rw [← HS, orW, ← wv_set]; exact HR.out.put _ _)
            have HH2 := Lib.hid (HH.out.far (p := ⟨g, k, none⟩) hap (.int .u32 (((wordsOf (rangeL l a (upto a b k))).getD k 0 ||| maskN 31 0 : Nat) : Int)))
            have HO2 := Lib.hid (HO.out.trans (Off.put2 wr p g k (.int .u32 (((wordsOf (rangeL l a (upto a b k))).getD k 0 ||| maskN 31 0 : Nat) : Int))))
            have HD : Hid ((wr.setCell ⟨g, k, none⟩ (.int .u32 (((wordsOf (rangeL l a (upto a b k))).getD k 0 ||| maskN 31 0 : Nat) : Int))).cell? ⟨p, 0, none⟩ = some (.slice (some ⟨g, 0, none⟩) M M)) := Lib.hid (HH2.out.cell 0)
            clear HR HH HO HS hwl
            generalize (wordsOf (rangeL l a (upto a b k))).getD k 0 ||| maskN 31 0 = z at *
            generalize (wordsOf (rangeL l a (upto a b k))).getD k 0 = x at *
            generalize maskN 31 0 = mk at *
            obtain rfl : A = 4294967296 := m5
            obtain rfl : B = 1 := m6
            obtain rfl : mk = 4294967295 := by omega
            have m9 : bits .or .u32 (x : Int) 4294967295 = (z : Int) := hor
            clear hor m3
            go_wp2_with fail
            go_roundw
            case rel => exact ⟨k + 1, by omega, by omega, by go_num, HR2, HH2, HD.out, HO2⟩
            case measure => simp [intOf]; omega
      · obtain rfl : k = li + 1 := by omega
        have HR2 : Hid (Blk wr g 47 (wv (wordsOf (rangeL l a b))).toArray) := Lib.hid (by have := HR.out; rwa [HEnd.out] at this)
        clear HR
        go_wp2
        go_ret
        refine ⟨rfl, ⟨?_, by rw [wordsN_self]; exact HR2.out, Nat.le_refl _, hap⟩, HO.out⟩
        rw [rangeL_len, HML.out]; exact HH.out
end Go.Proofs.Ytjhfebhefclenaa
