/-
  WALKS: the reader of bits: readCode, the tables, getCharacter, getTable.
-/
import Derived.Test.YtpjaehljgpopmaaAp1
import Derived.Test.YtpjaehljgpopmaaSx
import Derived.Test.YtpjaehljgpopmaaTe3
import Derived.Test.YtpjaehljgpopmaaRo2
namespace Go.Proofs.Ytpjaehljgpopmaa
open Go.RowKit

theorem take_drop_snoc (l : List Bool) (a j : Nat) (h : a + j < l.length) : (l.drop a).take (j + 1) = (l.drop a).take j ++ [l[a + j]] := by
  rw [List.take_succ_eq_append_getElem (by rw [List.length_drop]; omega)]
  simp
theorem or_one (r : Nat) (h : r < 4611686018427387904) : bits .or .i64 ((r : Int) * 2) 1 = ((2 * r + 1 : Nat) : Int) := by
  have e := i64_or (2 * r) 1 (by omega) (by decide)
  have e2 : 2 * r ||| 1 = 2 * r + 1 := by
    apply Nat.eq_of_testBit_eq
    intro i
    cases i with
    | zero => simp
    | succ i => rw [Nat.testBit_or, Nat.testBit_succ, Nat.testBit_succ, Nat.testBit_succ, show (1 : Nat) / 2 = 0 from rfl, Nat.zero_testBit, show (2 * r + 1) / 2 = 2 * r / 2 by omega, Bool.or_false]
  rw [e2] at e
  rw [show (r : Int) * 2 = ((2 * r : Nat) : Int) by omega]
  exact e
set_option maxRecDepth 100000 in
theorem readCode_any (v : Value) (l : List Bool) (a n B : Nat) (w : World) (hv : Rd w B v (bv l)) (h : a + n ≤ l.length) (hn : n ≤ 16) (hl : l.length ≤ 1000000) :
    Calls Try.prog 36 #[v, .int .i64 a, .int .i64 n] w fun e w' => e = .returned (.int .i64 (valL ((l.drop a).take n) : Nat)) ∧ w' = w := by
  obtain ⟨A, cap, rfl, hc1, hc2, hc3⟩ := hv
  rw [bv_len] at *
  unfold maxLen at hc2
  have HC := Lib.hid hc3; clear hc3
  go_enter Try.func36, Try.ntmps36
  go_wp2
  go_loop [7, 8] (fun rv iv => ∃ (j r : Nat), j ≤ n ∧ iv = .int .i64 ((a + j : Nat) : Int) ∧ rv = .int .i64 r ∧ r < 2 ^ j ∧ Hid (r = valL ((l.drop a).take j))) (fun _ iv => a + n - (intOf iv).toNat)
  case atStart => exact ⟨0, 0, Nat.zero_le _, by simp, rfl, by decide, Lib.hid (by simp [valL])⟩
  case round =>
    obtain ⟨j, r, hj, rfl, rfl, hr, HR⟩ := hrel
    have hp : 2 ^ j ≤ 2 ^ 16 := Nat.pow_le_pow_right (by decide) (by omega)
    by_cases hlt : j < n
    · obtain ⟨b, o, hA, -, hcell⟩ := HC.out (by omega)
      subst hA
      have hil : a + j < l.length := by omega
      have cB := hcell (a + j) _ (bv_at l (a + j) hil)
      have HS : Hid (valL ((l.drop a).take (j + 1)) = 2 * r + (l[a + j]).toNat) := Lib.hid (by rw [take_drop_snoc l a j hil, valL_snoc, HR.out])
      have hor := or_one r (by omega)
      have hp2 : 2 ^ (j + 1) = 2 * 2 ^ j := by rw [Nat.pow_succ]; omega
      have HP2 := Lib.hid hp2; clear hp2 hcell
      obtain ⟨i, hi⟩ : ∃ i, i = a + j := ⟨_, rfl⟩
      have HI := Lib.hid (show ((a + (j + 1) : Nat) : Int) = (i : Int) + 1 by omega)
      have hi1 : (i : Int) < (a : Int) + (n : Int) := by omega
      have hi2 : i ≤ 1000000 := by omega
      have hi3 : i < l.length := by omega
      generalize l[a + j] = bb at *
      rw [← hi] at cB ⊢
      have him : a + n - i = n - j := by omega
      have HM := Lib.hid him; clear hi him
      cases bb
      · go_wp2
        go_round
        case rel => exact ⟨j + 1, 2 * r, by omega, by rw [HI.out], by go_num, by have := HP2.out; omega, Lib.hid (by rw [HS.out]; rfl)⟩
        case measure => simp [intOf]; omega
      · go_wp2
        go_round
        case rel => exact ⟨j + 1, 2 * r + 1, by omega, by rw [HI.out], by go_num, by have := HP2.out; omega, Lib.hid (by rw [HS.out]; rfl)⟩
        case measure => simp [intOf]; omega
    · obtain rfl : j = n := by omega
      go_wp2
      go_ret
      exact ⟨ret_int (by rw [HR.out]), rfl⟩
/-- Strings as values. -/
def sv (l : List (List UInt8)) : List Value := l.map fun x => Value.string (ofL x)
theorem sv_at (l : List (List UInt8)) (i : Nat) (h : i < l.length) : (sv l).toArray[i]? = some (.string (ofL (l.getD i []))) := by
  simp [sv, h, List.getD]
end Go.Proofs.Ytpjaehljgpopmaa
