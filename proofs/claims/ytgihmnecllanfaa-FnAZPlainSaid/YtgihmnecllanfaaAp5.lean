/-
  WALKS: the reader of bits: readCode, the tables, getCharacter, getTable.
-/
import Derived.Test.YtgihmnecllanfaaAp1
import Derived.Test.YtgihmnecllanfaaSx
import Derived.Test.YtgihmnecllanfaaTe3
import Derived.Test.YtgihmnecllanfaaRo2
namespace Go.Proofs.Ytgihmnecllanfaa
open Go.RowKit

theorem take_drop_snoc (l : List Bool) (a j : Nat) (h : a + j < l.length) : (l.drop a).take (j + 1) = (l.drop a).take j ++ [l[a + j]] := by
  rw [List.take_succ_eq_append_getElem (by rw [List.length_drop]; omega)]
  simp
theorem or_one (r : Nat) (h : r < 4611686018427387904) : bits .or .i64 ((r : Int) * 2) 1 = ((2 * r + 1 : Nat) : Int) := by
  have e := i64_or (2 * r) 1 (by omega) (by decide)
  have e2 : 2 * r ||| 1 = 2 * r + 1 := by
    apply Nat.eq_of_testBit_eq
    intro i
    cases i with
    | zero => simp
    | succ i => rw [Nat.testBit_or, Nat.testBit_succ, Nat.testBit_succ, Nat.testBit_succ, show (1 : Nat) / 2 = 0 from rfl, Nat.zero_testBit, show (2 * r + 1) / 2 = 2 * r / 2 by omega, Bool.or_false]
  rw [e2] at e
  rw [show (r : Int) * 2 = ((2 * r : Nat) : Int) by omega]
  exact e
set_option maxRecDepth 100000 in
theorem readCode_any (v : Value) (l : List Bool) (a n B : Nat) (w : World) (hv : Rd w B v (bv l)) (h : a + n ≤ l.length) (hn : n ≤ 16) (hl : l.length ≤ 1000000) :
    Calls Try.prog 55 #[v, .int .i64 a, .int .i64 n] w fun e w' => e = .returned (.int .i64 (valL ((l.drop a).take n) : Nat)) ∧ w' = w := by
  obtain ⟨A, cap, rfl, hc1, hc2, hc3⟩ := hv
  rw [bv_len] at *
  unfold maxLen at hc2
  have HC := Lib.hid hc3; clear hc3
  go_enter Try.func55, Try.ntmps55
  go_wp2
  go_loop [7, 8] (fun rv iv => ∃ (j r : Nat), j ≤ n ∧ iv = .int .i64 ((a + j : Nat) : Int) ∧ rv = .int .i64 r ∧ r < 2 ^ j ∧ Hid (r = valL ((l.drop a).take j))) (fun _ iv => a + n - (intOf iv).toNat)
  case atStart => exact ⟨0, 0, Nat.zero_le _, by simp, rfl, by decide, Lib.hid (by simp [valL])⟩
  case round =>
    obtain ⟨j, r, hj, rfl, rfl, hr, HR⟩ := hrel
    have hp : 2 ^ j ≤ 2 ^ 16 := Nat.pow_le_pow_right (by decide) (by omega)
    by_cases hlt : j < n
    · obtain ⟨b, o, hA, -, hcell⟩ := HC.out (by omega)
      subst hA
      have hil : a + j < l.length := by omega
      have cB := hcell (a + j) _ (bv_at l (a + j) hil)
      have HS : Hid (valL ((l.drop a).take (j + 1)) = 2 * r + (l[a + j]).toNat) := Lib.hid (by rw [take_drop_snoc l a j hil, valL_snoc, HR.out])
      have hor := or_one r (by omega)
      have hp2 : 2 ^ (j + 1) = 2 * 2 ^ j := by rw [Nat.pow_succ]; omega
      have HP2 := Lib.hid hp2; clear hp2 hcell
      obtain ⟨i, hi⟩ : ∃ i, i = a + j := ⟨_, rfl⟩
      have HI := Lib.hid (show ((a + (j + 1) : Nat) : Int) = (i : Int) + 1 by omega)
      have hi1 : (i : Int) < (a : Int) + (n : Int) := by omega
      have hi2 : i ≤ 1000000 := by omega
      have hi3 : i < l.length := by omega
      generalize l[a + j] = bb at *
      rw [← hi] at cB ⊢
      have him : a + n - i = n - j := by omega
      have HM := Lib.hid him; clear hi him
      cases bb
      · go_wp2
        go_round
        case rel => exact ⟨j + 1, 2 * r, by omega, by rw [HI.out], by go_num, by have := HP2.out; omega, Lib.hid (by rw [HS.out]; rfl)⟩
        case measure => simp [intOf]; omega
      · go_wp2
        go_round
        case rel => exact ⟨j + 1, 2 * r + 1, by omega, by rw [HI.out], by go_num, by have := HP2.out; omega, Lib.hid (by rw [HS.out]; rfl)⟩
        case measure => simp [intOf]; omega
    · obtain rfl : j = n := by omega
      go_wp2
      go_ret
      exact ⟨ret_int (by rw [HR.out]), rfl⟩
/-- Strings as values. -/
def sv (l : List (List UInt8)) : List Value := l.map fun x => Value.string (ofL x)
theorem sv_at (l : List (List UInt8)) (i : Nat) (h : i < l.length) : (sv l).toArray[i]? = some (.string (ofL (l.getD i []))) := by
  simp [sv, h, List.getD]
set_option maxRecDepth 100000 in
theorem upper_any (w : World) : Calls Try.prog 79 #[] w fun e w' => ∃ g, e = .returned (.slice (some ⟨g, 0, none⟩) 32 32) ∧ Blk w' g 9 (sv (tabL 0)).toArray ∧ Below w.heap.size w w' := by
  go_enter Try.func79, Try.ntmps79
  go_wp2
  go_ret
  exact ⟨_, rfl, Blk.fresh w _ _, bal (brf w) _⟩
set_option maxRecDepth 100000 in
theorem lower_any (w : World) : Calls Try.prog 80 #[] w fun e w' => ∃ g, e = .returned (.slice (some ⟨g, 0, none⟩) 32 32) ∧ Blk w' g 9 (sv (tabL 1)).toArray ∧ Below w.heap.size w w' := by
  go_enter Try.func80, Try.ntmps80
  go_wp2
  go_ret
  exact ⟨_, rfl, Blk.fresh w _ _, bal (brf w) _⟩
set_option maxRecDepth 100000 in
theorem mixed_any (w : World) : Calls Try.prog 81 #[] w fun e w' => ∃ g, e = .returned (.slice (some ⟨g, 0, none⟩) 32 32) ∧ Blk w' g 9 (sv (tabL 2)).toArray ∧ Below w.heap.size w w' := by
  go_enter Try.func81, Try.ntmps81
  go_wp2
  go_ret
  exact ⟨_, rfl, Blk.fresh w _ _, bal (brf w) _⟩
set_option maxRecDepth 100000 in
theorem digit_any (w : World) : Calls Try.prog 83 #[] w fun e w' => ∃ g, e = .returned (.slice (some ⟨g, 0, none⟩) 16 16) ∧ Blk w' g 9 (sv (tabL 3)).toArray ∧ Below w.heap.size w w' := by
  go_enter Try.func83, Try.ntmps83
  go_wp2
  go_ret
  exact ⟨_, rfl, Blk.fresh w _ _, bal (brf w) _⟩
set_option maxRecDepth 100000 in
theorem punct_any (w : World) : Calls Try.prog 82 #[] w fun e w' => ∃ g, e = .returned (.slice (some ⟨g, 0, none⟩) 32 32) ∧ Blk w' g 9 (sv (tabL 4)).toArray ∧ Below w.heap.size w w' := by
  go_enter Try.func82, Try.ntmps82
  go_wp2
  go_ret
  exact ⟨_, rfl, Blk.fresh w _ _, bal (brf w) _⟩
set_option maxRecDepth 100000 in
theorem getChar_any (t c : Nat) (w : World) (ht : t < 5) (hc : c < 2 ^ sizeT t) :
    Calls Try.prog 56 #[.int .i64 t, .int .i64 c] w fun e w' => e = .returned (.tuple #[.string (ofL (tabS t c)), .nilIface]) ∧ Below w.heap.size w w' := by
  have h5 : t = 0 ∨ t = 1 ∨ t = 2 ∨ t = 3 ∨ t = 4 := by omega
  rcases h5 with rfl | rfl | rfl | rfl | rfl
  · have hc' : c < 32 := hc
    obtain ⟨S, hS⟩ : ∃ S, S = ofL (tabS 0 c) := ⟨_, rfl⟩
    rw [← hS]
    have HS := Lib.hid hS; clear hS
    go_enter Try.func56, Try.ntmps56
    go_wp2_with fail
    refine (upper_any _).mono ?_
    rintro e w1 ⟨g, rfl, hk, hb⟩
    have c0 : w1.cell? ⟨g, c, none⟩ = some (.string S) := by rw [HS.out, hk.cell, sv_at _ _ (by rw [tabL_len _ (by decide)]; exact hc)]; rfl
    have HB := Lib.hid hb; clear hk hb
    go_wp2
    go_ret2
    exact ⟨rfl, HB.out⟩
  · have hc' : c < 32 := hc
    obtain ⟨S, hS⟩ : ∃ S, S = ofL (tabS 1 c) := ⟨_, rfl⟩
    rw [← hS]
    have HS := Lib.hid hS; clear hS
    go_enter Try.func56, Try.ntmps56
    go_wp2_with fail
    refine (lower_any _).mono ?_
    rintro e w1 ⟨g, rfl, hk, hb⟩
    have c0 : w1.cell? ⟨g, c, none⟩ = some (.string S) := by rw [HS.out, hk.cell, sv_at _ _ (by rw [tabL_len _ (by decide)]; exact hc)]; rfl
    have HB := Lib.hid hb; clear hk hb
    go_wp2
    go_ret2
    exact ⟨rfl, HB.out⟩
  · have hc' : c < 32 := hc
    obtain ⟨S, hS⟩ : ∃ S, S = ofL (tabS 2 c) := ⟨_, rfl⟩
    rw [← hS]
    have HS := Lib.hid hS; clear hS
    go_enter Try.func56, Try.ntmps56
    go_wp2_with fail
    refine (mixed_any _).mono ?_
    rintro e w1 ⟨g, rfl, hk, hb⟩
    have c0 : w1.cell? ⟨g, c, none⟩ = some (.string S) := by rw [HS.out, hk.cell, sv_at _ _ (by rw [tabL_len _ (by decide)]; exact hc)]; rfl
    have HB := Lib.hid hb; clear hk hb
    go_wp2
    go_ret2
    exact ⟨rfl, HB.out⟩
  · have hc' : c < 16 := hc
    obtain ⟨S, hS⟩ : ∃ S, S = ofL (tabS 3 c) := ⟨_, rfl⟩
    rw [← hS]
    have HS := Lib.hid hS; clear hS
    go_enter Try.func56, Try.ntmps56
    go_wp2_with fail
    refine (digit_any _).mono ?_
    rintro e w1 ⟨g, rfl, hk, hb⟩
    have c0 : w1.cell? ⟨g, c, none⟩ = some (.string S) := by rw [HS.out, hk.cell, sv_at _ _ (by rw [tabL_len _ (by decide)]; exact hc)]; rfl
    have HB := Lib.hid hb; clear hk hb
    go_wp2
    go_ret2
    exact ⟨rfl, HB.out⟩
  · have hc' : c < 32 := hc
    obtain ⟨S, hS⟩ : ∃ S, S = ofL (tabS 4 c) := ⟨_, rfl⟩
    rw [← hS]
    have HS := Lib.hid hS; clear hS
    go_enter Try.func56, Try.ntmps56
    go_wp2_with fail
    refine (punct_any _).mono ?_
    rintro e w1 ⟨g, rfl, hk, hb⟩
    have c0 : w1.cell? ⟨g, c, none⟩ = some (.string S) := by rw [HS.out, hk.cell, sv_at _ _ (by rw [tabL_len _ (by decide)]; exact hc)]; rfl
    have HB := Lib.hid hb; clear hk hb
    go_wp2
    go_ret2
    exact ⟨rfl, HB.out⟩
theorem getTable_any (a : UInt8) (w : World) (h : a = 76 ∨ a = 80 ∨ a = 77 ∨ a = 68 ∨ a = 66 ∨ a = 85) : Calls Try.prog 61 #[.int .u8 (a.toNat : Int)] w fun e w' => e = .returned (.int .i64 (modeT a : Nat)) ∧ w' = w := by
  rcases h with rfl | rfl | rfl | rfl | rfl | rfl
  · go_enter Try.func61, Try.ntmps61
    go_wp2
    go_ret
    exact ⟨rfl, rfl⟩
  · go_enter Try.func61, Try.ntmps61
    go_wp2
    go_ret
    exact ⟨rfl, rfl⟩
  · go_enter Try.func61, Try.ntmps61
    go_wp2
    go_ret
    exact ⟨rfl, rfl⟩
  · go_enter Try.func61, Try.ntmps61
    go_wp2
    go_ret
    exact ⟨rfl, rfl⟩
  · go_enter Try.func61, Try.ntmps61
    go_wp2
    go_ret
    exact ⟨rfl, rfl⟩
  · go_enter Try.func61, Try.ntmps61
    go_wp2
    go_ret
    exact ⟨rfl, rfl⟩
end Go.Proofs.Ytgihmnecllanfaa
