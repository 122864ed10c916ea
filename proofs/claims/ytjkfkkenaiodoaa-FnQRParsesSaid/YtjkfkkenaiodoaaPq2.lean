/-
  WALKS: spec.QRAlpha, QRAlphaByte. PLAIN: what a segment of data words says.
-/
import Derived.Test.YtjkfkkenaiodoaaPq1
import Derived.Test.YtjkfkkenaiodoaaSx
namespace Go.Proofs.Ytjkfkkenaiodoaa
open Go.RowKit

def spT : List Nat := [32, 36, 37, 42, 43, 45, 46, 47, 58]
/-- The number of a byte in alphanumeric mode. -/
def alphaI (b : Nat) : Int := if 48 ≤ b ∧ b ≤ 57 then (b : Int) - 48 else if 65 ≤ b ∧ b ≤ 90 then (b : Int) - 55 else if b = 32 then 36 else if b = 36 then 37 else if b = 37 then 38 else if b = 42 then 39 else if b = 43 then 40 else if b = 45 then 41 else if b = 46 then 42 else if b = 47 then 43 else if b = 58 then 44 else -1
def alT : List Nat := [48, 49, 50, 51, 52, 53, 54, 55, 56, 57, 65, 66, 67, 68, 69, 70, 71, 72, 73, 74, 75, 76, 77, 78, 79, 80, 81, 82, 83, 84, 85, 86, 87, 88, 89, 90, 32, 36, 37, 42, 43, 45, 46, 47, 58]
/-- The byte with a number. -/
def alphaB (n : Nat) : Nat := alT.getD n 0
theorem alphaB_all : ∀ n, n < 45 → 32 ≤ alphaB n ∧ alphaB n ≤ 90 ∧ alphaI (alphaB n) = (n : Int) ∧ ∀ b, b < alphaB n → 32 ≤ b → alphaI b ≠ (n : Int) := by decide +kernel
theorem list_ixP {P : Program} {w : World} {ops : Array Oper} {rest : List Oper} {o : Oper} {a : Act} {Q : Exit → Act → World → Prop} (hgd : o.guard = none) (t : TypeId) (x ix : Operand) (ho : o.op = .index t x ix) (v : Value)
    (hrun : (Instr.index t (a.eval x) (a.eval ix)).run P w = .ok v w) (h : wpList P ops Q rest (a.put o.dst v) w) : wpList P ops Q (o :: rest) a w :=
  wpList_plain hgd fun _ hK => by
    unfold Oper.wp execOp
    simp only [ho, Sem.run_bind, Sem.run_pure, hrun, Result.andThen_ok]
    exact hK _ _ h
set_option maxRecDepth 100000 in
set_option maxHeartbeats 4000000 in
theorem qrAlpha_any (b : Nat) (w : World) (h : b < 256) : Calls Try.prog 47 #[.int .u8 b] w fun e w' => e = .returned (.int .i64 (alphaI b)) ∧ w' = w := by
  by_cases h1 : 48 ≤ b ∧ b ≤ 57
  · have e : alphaI b = (b : Int) - 48 := by unfold alphaI; rw [if_pos h1]
    rw [e]
    obtain ⟨h1, h2⟩ := h1
    go_enter Try.func47, Try.ntmps47
    go_wp2_with fail
    go_ret
    exact ⟨rfl, rfl⟩
  · by_cases h2 : 65 ≤ b ∧ b ≤ 90
    · have e : alphaI b = (b : Int) - 65 + 10 := by unfold alphaI; rw [if_neg h1, if_pos h2]; omega
      rw [e]
      obtain ⟨h2, h3⟩ := h2
      have h4 : ¬ b ≤ 57 := by omega
      have h5 : 48 ≤ b := by omega
      go_enter Try.func47, Try.ntmps47
      go_wp2_with fail
      go_ret
      exact ⟨ret_int (by omega), rfl⟩
    · have hal : Hid ((∀ j, j < 9 → spT.getD j 0 ≠ b) → alphaI b = -1) := Lib.hid (fun hne => by
        unfold alphaI
        rw [if_neg h1, if_neg h2]
        have n0 := hne 0 (by decide); have n1 := hne 1 (by decide); have n2 := hne 2 (by decide); have n3 := hne 3 (by decide); have n4 := hne 4 (by decide)
        have n5 := hne 5 (by decide); have n6 := hne 6 (by decide); have n7 := hne 7 (by decide); have n8 := hne 8 (by decide)
        have m0 : 32 ≠ b := n0; have m1 : 36 ≠ b := n1; have m2 : 37 ≠ b := n2; have m3 : 42 ≠ b := n3; have m4 : 43 ≠ b := n4
        have m5 : 45 ≠ b := n5; have m6 : 46 ≠ b := n6; have m7 : 47 ≠ b := n7; have m8 : 58 ≠ b := n8
        rw [if_neg (Ne.symm m0), if_neg (Ne.symm m1), if_neg (Ne.symm m2), if_neg (Ne.symm m3), if_neg (Ne.symm m4), if_neg (Ne.symm m5), if_neg (Ne.symm m6), if_neg (Ne.symm m7), if_neg (Ne.symm m8)])
      have hc : b < 48 ∨ (57 < b ∧ b < 65) ∨ 90 < b := by omega
      clear h1 h2
      rcases hc with hc | ⟨hc, hc2⟩ | hc
      · go_enter Try.func47, Try.ntmps47
        go_wp2_with fail
        go_loopw [27] (fun iv wr => ∃ (i : Nat), i ≤ 9 ∧ iv = .int .i64 (i : Int) ∧ Hid (∀ j, j < i → spT.getD j 0 ≠ b) ∧ wr = w) (fun iv _ => 9 - (intOf iv).toNat)
        case atStart => exact ⟨0, by omega, rfl, Lib.hid (fun j hj => absurd hj (Nat.not_lt_zero _)), rfl⟩
        case round =>
          obtain ⟨i, hi, rfl, HNE, rfl⟩ := hrel
          rename World => w
          by_cases h9 : i < 9
          · have hk : i = 0 ∨ i = 1 ∨ i = 2 ∨ i = 3 ∨ i = 4 ∨ i = 5 ∨ i = 6 ∨ i = 7 ∨ i = 8 := by omega
            clear hi h9 hal
            rcases hk with rfl | rfl | rfl | rfl | rfl | rfl | rfl | rfl | rfl
            · -- number i, the byte there, the next number
              by_cases hb : b = 32
              · subst hb
                go_wp2_with (with_reducible refine stop_at (o := ⟨some 30, _, _, _, _, _⟩) ?_)
                refine Lib.hid ?_
                refine list_ixP rfl _ _ _ rfl (.int .u8 32) (by first | rfl | kernel_rfl) ?_
                go_wp2_with fail
                go_ret
                exact ⟨rfl, rfl⟩
              · have hne : ((b : Int) == 32) = false := by rw [beq_eq_false_iff_ne]; omega
                go_wp2_with (with_reducible refine stop_at (o := ⟨some 30, _, _, _, _, _⟩) ?_)
                refine Lib.hid ?_
                refine list_ixP rfl _ _ _ rfl (.int .u8 32) (by first | rfl | kernel_rfl) ?_
                go_wp2_with fail
                go_roundw
                case rel => exact ⟨1, by decide, rfl, Lib.hid (fun j hj => by
                  have hj2 : j < 0 ∨ j = 0 := by omega
                  rcases hj2 with hj2 | rfl
                  · exact HNE.out j hj2
                  · exact fun he => hb he.symm), trivial⟩
                case measure => simp [intOf]
            · -- number i, the byte there, the next number
              by_cases hb : b = 36
              · subst hb
                go_wp2_with (with_reducible refine stop_at (o := ⟨some 30, _, _, _, _, _⟩) ?_)
                refine Lib.hid ?_
                refine list_ixP rfl _ _ _ rfl (.int .u8 36) (by first | rfl | kernel_rfl) ?_
                go_wp2_with fail
                go_ret
                exact ⟨rfl, rfl⟩
              · have hne : ((b : Int) == 36) = false := by rw [beq_eq_false_iff_ne]; omega
                go_wp2_with (with_reducible refine stop_at (o := ⟨some 30, _, _, _, _, _⟩) ?_)
                refine Lib.hid ?_
                refine list_ixP rfl _ _ _ rfl (.int .u8 36) (by first | rfl | kernel_rfl) ?_
                go_wp2_with fail
                go_roundw
                case rel => exact ⟨2, by decide, rfl, Lib.hid (fun j hj => by
                  have hj2 : j < 1 ∨ j = 1 := by omega
                  rcases hj2 with hj2 | rfl
                  · exact HNE.out j hj2
                  · exact fun he => hb he.symm), trivial⟩
                case measure => simp [intOf]
            · -- number i, the byte there, the next number
              by_cases hb : b = 37
              · subst hb
                go_wp2_with (with_reducible refine stop_at (o := ⟨some 30, _, _, _, _, _⟩) ?_)
                refine Lib.hid ?_
                refine list_ixP rfl _ _ _ rfl (.int .u8 37) (by first | rfl | kernel_rfl) ?_
                go_wp2_with fail
                go_ret
                exact ⟨rfl, rfl⟩
              · have hne : ((b : Int) == 37) = false := by rw [beq_eq_false_iff_ne]; omega
                go_wp2_with (with_reducible refine stop_at (o := ⟨some 30, _, _, _, _, _⟩) ?_)
                refine Lib.hid ?_
                refine list_ixP rfl _ _ _ rfl (.int .u8 37) (by first | rfl | kernel_rfl) ?_
                go_wp2_with fail
                go_roundw
                case rel => exact ⟨3, by decide, rfl, Lib.hid (fun j hj => by
                  have hj2 : j < 2 ∨ j = 2 := by omega
                  rcases hj2 with hj2 | rfl
                  · exact HNE.out j hj2
                  · exact fun he => hb he.symm), trivial⟩
                case measure => simp [intOf]
            · -- number i, the byte there, the next number
              by_cases hb : b = 42
              · subst hb
                go_wp2_with (with_reducible refine stop_at (o := ⟨some 30, _, _, _, _, _⟩) ?_)
                refine Lib.hid ?_
                refine list_ixP rfl _ _ _ rfl (.int .u8 42) (by first | rfl | kernel_rfl) ?_
                go_wp2_with fail
                go_ret
                exact ⟨rfl, rfl⟩
              · have hne : ((b : Int) == 42) = false := by rw [beq_eq_false_iff_ne]; omega
                go_wp2_with (with_reducible refine stop_at (o := ⟨some 30, _, _, _, _, _⟩) ?_)
                refine Lib.hid ?_
                refine list_ixP rfl _ _ _ rfl (.int .u8 42) (by first | rfl | kernel_rfl) ?_
                go_wp2_with fail
                go_roundw
                case rel => exact ⟨4, by decide, rfl, Lib.hid (fun j hj => by
                  have hj2 : j < 3 ∨ j = 3 := by omega
                  rcases hj2 with hj2 | rfl
                  · exact HNE.out j hj2
                  · exact fun he => hb he.symm), trivial⟩
                case measure => simp [intOf]
            · -- number i, the byte there, the next number
              by_cases hb : b = 43
              · subst hb
                go_wp2_with (with_reducible refine stop_at (o := ⟨some 30, _, _, _, _, _⟩) ?_)
                refine Lib.hid ?_
                refine list_ixP rfl _ _ _ rfl (.int .u8 43) (by first | rfl | kernel_rfl) ?_
                go_wp2_with fail
                go_ret
                exact ⟨rfl, rfl⟩
              · have hne : ((b : Int) == 43) = false := by rw [beq_eq_false_iff_ne]; omega
                go_wp2_with (with_reducible refine stop_at (o := ⟨some 30, _, _, _, _, _⟩) ?_)
                refine Lib.hid ?_
                refine list_ixP rfl _ _ _ rfl (.int .u8 43) (by first | rfl | kernel_rfl) ?_
                go_wp2_with fail
                go_roundw
                case rel => exact ⟨5, by decide, rfl, Lib.hid (fun j hj => by
                  have hj2 : j < 4 ∨ j = 4 := by omega
                  rcases hj2 with hj2 | rfl
                  · exact HNE.out j hj2
                  · exact fun he => hb he.symm), trivial⟩
                case measure => simp [intOf]
            · -- number i, the byte there, the next number
              by_cases hb : b = 45
              · subst hb
                go_wp2_with (with_reducible refine stop_at (o := ⟨some 30, _, _, _, _, _⟩) ?_)
                refine Lib.hid ?_
                refine list_ixP rfl _ _ _ rfl (.int .u8 45) (by first | rfl | kernel_rfl) ?_
                go_wp2_with fail
                go_ret
                exact ⟨rfl, rfl⟩
              · have hne : ((b : Int) == 45) = false := by rw [beq_eq_false_iff_ne]; omega
                go_wp2_with (with_reducible refine stop_at (o := ⟨some 30, _, _, _, _, _⟩) ?_)
                refine Lib.hid ?_
                refine list_ixP rfl _ _ _ rfl (.int .u8 45) (by first | rfl | kernel_rfl) ?_
                go_wp2_with fail
                go_roundw
                case rel => exact ⟨6, by decide, rfl, Lib.hid (fun j hj => by
                  have hj2 : j < 5 ∨ j = 5 := by omega
                  rcases hj2 with hj2 | rfl
                  · exact HNE.out j hj2
                  · exact fun he => hb he.symm), trivial⟩
                case measure => simp [intOf]
            · -- number i, the byte there, the next number
              by_cases hb : b = 46
              · subst hb
                go_wp2_with (with_reducible refine stop_at (o := ⟨some 30, _, _, _, _, _⟩) ?_)
                refine Lib.hid ?_
                refine list_ixP rfl _ _ _ rfl (.int .u8 46) (by first | rfl | kernel_rfl) ?_
                go_wp2_with fail
                go_ret
                exact ⟨rfl, rfl⟩
              · have hne : ((b : Int) == 46) = false := by rw [beq_eq_false_iff_ne]; omega
                go_wp2_with (with_reducible refine stop_at (o := ⟨some 30, _, _, _, _, _⟩) ?_)
                refine Lib.hid ?_
                refine list_ixP rfl _ _ _ rfl (.int .u8 46) (by first | rfl | kernel_rfl) ?_
                go_wp2_with fail
                go_roundw
                case rel => exact ⟨7, by decide, rfl, Lib.hid (fun j hj => by
                  have hj2 : j < 6 ∨ j = 6 := by omega
                  rcases hj2 with hj2 | rfl
                  · exact HNE.out j hj2
                  · exact fun he => hb he.symm), trivial⟩
                case measure => simp [intOf]
            · -- number i, the byte there, the next number
              by_cases hb : b = 47
              · subst hb
                go_wp2_with (with_reducible refine stop_at (o := ⟨some 30, _, _, _, _, _⟩) ?_)
                refine Lib.hid ?_
                refine list_ixP rfl _ _ _ rfl (.int .u8 47) (by first | rfl | kernel_rfl) ?_
                go_wp2_with fail
                go_ret
                exact ⟨rfl, rfl⟩
              · have hne : ((b : Int) == 47) = false := by rw [beq_eq_false_iff_ne]; omega
                go_wp2_with (with_reducible refine stop_at (o := ⟨some 30, _, _, _, _, _⟩) ?_)
                refine Lib.hid ?_
                refine list_ixP rfl _ _ _ rfl (.int .u8 47) (by first | rfl | kernel_rfl) ?_
                go_wp2_with fail
                go_roundw
                case rel => exact ⟨8, by decide, rfl, Lib.hid (fun j hj => by
                  have hj2 : j < 7 ∨ j = 7 := by omega
                  rcases hj2 with hj2 | rfl
                  · exact HNE.out j hj2
                  · exact fun he => hb he.symm), trivial⟩
                case measure => simp [intOf]
            · -- number i, the byte there, the next number
              by_cases hb : b = 58
              · subst hb
                go_wp2_with (with_reducible refine stop_at (o := ⟨some 30, _, _, _, _, _⟩) ?_)
                refine Lib.hid ?_
                refine list_ixP rfl _ _ _ rfl (.int .u8 58) (by first | rfl | kernel_rfl) ?_
                go_wp2_with fail
                go_ret
                exact ⟨rfl, rfl⟩
              · have hne : ((b : Int) == 58) = false := by rw [beq_eq_false_iff_ne]; omega
                go_wp2_with (with_reducible refine stop_at (o := ⟨some 30, _, _, _, _, _⟩) ?_)
                refine Lib.hid ?_
                refine list_ixP rfl _ _ _ rfl (.int .u8 58) (by first | rfl | kernel_rfl) ?_
                go_wp2_with fail
                go_roundw
                case rel => exact ⟨9, by decide, rfl, Lib.hid (fun j hj => by
                  have hj2 : j < 8 ∨ j = 8 := by omega
                  rcases hj2 with hj2 | rfl
                  · exact HNE.out j hj2
                  · exact fun he => hb he.symm), trivial⟩
                case measure => simp [intOf]
          · obtain rfl : i = 9 := by omega
            have ha := hal.out HNE.out
            go_wp2_with fail
            go_ret
            rw [ha]
            exact ⟨rfl, rfl⟩
      · have hc3 : 48 ≤ b := by omega
        go_enter Try.func47, Try.ntmps47
        go_wp2_with fail
        go_loopw [27] (fun iv wr => ∃ (i : Nat), i ≤ 9 ∧ iv = .int .i64 (i : Int) ∧ Hid (∀ j, j < i → spT.getD j 0 ≠ b) ∧ wr = w) (fun iv _ => 9 - (intOf iv).toNat)
        case atStart => exact ⟨0, by omega, rfl, Lib.hid (fun j hj => absurd hj (Nat.not_lt_zero _)), rfl⟩
        case round =>
          obtain ⟨i, hi, rfl, HNE, rfl⟩ := hrel
          rename World => w
          by_cases h9 : i < 9
          · have hk : i = 0 ∨ i = 1 ∨ i = 2 ∨ i = 3 ∨ i = 4 ∨ i = 5 ∨ i = 6 ∨ i = 7 ∨ i = 8 := by omega
            clear hi h9 hal
            rcases hk with rfl | rfl | rfl | rfl | rfl | rfl | rfl | rfl | rfl
            · -- number i, the byte there, the next number
              by_cases hb : b = 32
              · subst hb
                go_wp2_with (with_reducible refine stop_at (o := ⟨some 30, _, _, _, _, _⟩) ?_)
                refine Lib.hid ?_
                refine list_ixP rfl _ _ _ rfl (.int .u8 32) (by first | rfl | kernel_rfl) ?_
                go_wp2_with fail
                go_ret
                exact ⟨rfl, rfl⟩
              · have hne : ((b : Int) == 32) = false := by rw [beq_eq_false_iff_ne]; omega
                go_wp2_with (with_reducible refine stop_at (o := ⟨some 30, _, _, _, _, _⟩) ?_)
                refine Lib.hid ?_
                refine list_ixP rfl _ _ _ rfl (.int .u8 32) (by first | rfl | kernel_rfl) ?_
                go_wp2_with fail
                go_roundw
                case rel => exact ⟨1, by decide, rfl, Lib.hid (fun j hj => by
                  have hj2 : j < 0 ∨ j = 0 := by omega
                  rcases hj2 with hj2 | rfl
                  · exact HNE.out j hj2
                  · exact fun he => hb he.symm), trivial⟩
                case measure => simp [intOf]
            · -- number i, the byte there, the next number
              by_cases hb : b = 36
              · subst hb
                go_wp2_with (with_reducible refine stop_at (o := ⟨some 30, _, _, _, _, _⟩) ?_)
                refine Lib.hid ?_
                refine list_ixP rfl _ _ _ rfl (.int .u8 36) (by first | rfl | kernel_rfl) ?_
                go_wp2_with fail
                go_ret
                exact ⟨rfl, rfl⟩
              · have hne : ((b : Int) == 36) = false := by rw [beq_eq_false_iff_ne]; omega
                go_wp2_with (with_reducible refine stop_at (o := ⟨some 30, _, _, _, _, _⟩) ?_)
                refine Lib.hid ?_
                refine list_ixP rfl _ _ _ rfl (.int .u8 36) (by first | rfl | kernel_rfl) ?_
                go_wp2_with fail
                go_roundw
                case rel => exact ⟨2, by decide, rfl, Lib.hid (fun j hj => by
                  have hj2 : j < 1 ∨ j = 1 := by omega
                  rcases hj2 with hj2 | rfl
                  · exact HNE.out j hj2
                  · exact fun he => hb he.symm), trivial⟩
                case measure => simp [intOf]
            · -- number i, the byte there, the next number
              by_cases hb : b = 37
              · subst hb
                go_wp2_with (with_reducible refine stop_at (o := ⟨some 30, _, _, _, _, _⟩) ?_)
                refine Lib.hid ?_
                refine list_ixP rfl _ _ _ rfl (.int .u8 37) (by first | rfl | kernel_rfl) ?_
                go_wp2_with fail
                go_ret
                exact ⟨rfl, rfl⟩
              · have hne : ((b : Int) == 37) = false := by rw [beq_eq_false_iff_ne]; omega
                go_wp2_with (with_reducible refine stop_at (o := ⟨some 30, _, _, _, _, _⟩) ?_)
                refine Lib.hid ?_
                refine list_ixP rfl _ _ _ rfl (.int .u8 37) (by first | rfl | kernel_rfl) ?_
                go_wp2_with fail
                go_roundw
                case rel => exact ⟨3, by decide, rfl, Lib.hid (fun j hj => by
                  have hj2 : j < 2 ∨ j = 2 := by omega
                  rcases hj2 with hj2 | rfl
                  · exact HNE.out j hj2
                  · exact fun he => hb he.symm), trivial⟩
                case measure => simp [intOf]
            · -- number i, the byte there, the next number
              by_cases hb : b = 42
              · subst hb
                go_wp2_with (with_reducible refine stop_at (o := ⟨some 30, _, _, _, _, _⟩) ?_)
                refine Lib.hid ?_
                refine list_ixP rfl _ _ _ rfl (.int .u8 42) (by first | rfl | kernel_rfl) ?_
                go_wp2_with fail
                go_ret
                exact ⟨rfl, rfl⟩
              · have hne : ((b : Int) == 42) = false := by rw [beq_eq_false_iff_ne]; omega
                go_wp2_with (with_reducible refine stop_at (o := ⟨some 30, _, _, _, _, _⟩) ?_)
                refine Lib.hid ?_
                refine list_ixP rfl _ _ _ rfl (.int .u8 42) (by first | rfl | kernel_rfl) ?_
                go_wp2_with fail
                go_roundw
                case rel => exact ⟨4, by decide, rfl, Lib.hid (fun j hj => by
                  have hj2 : j < 3 ∨ j = 3 := by omega
                  rcases hj2 with hj2 | rfl
                  · exact HNE.out j hj2
                  · exact fun he => hb he.symm), trivial⟩
                case measure => simp [intOf]
            · -- number i, the byte there, the next number
              by_cases hb : b = 43
              · subst hb
                go_wp2_with (with_reducible refine stop_at (o := ⟨some 30, _, _, _, _, _⟩) ?_)
                refine Lib.hid ?_
                refine list_ixP rfl _ _ _ rfl (.int .u8 43) (by first | rfl | kernel_rfl) ?_
                go_wp2_with fail
                go_ret
                exact ⟨rfl, rfl⟩
              · have hne : ((b : Int) == 43) = false := by rw [beq_eq_false_iff_ne]; omega
                go_wp2_with (with_reducible refine stop_at (o := ⟨some 30, _, _, _, _, _⟩) ?_)
                refine Lib.hid ?_
                refine list_ixP rfl _ _ _ rfl (.int .u8 43) (by first | rfl | kernel_rfl) ?_
                go_wp2_with fail
                go_roundw
                case rel => exact ⟨5, by decide, rfl, Lib.hid (fun j hj => by
                  have hj2 : j < 4 ∨ j = 4 := by omega
                  rcases hj2 with hj2 | rfl
                  · exact HNE.out j hj2
                  · exact fun he => hb he.symm), trivial⟩
                case measure => simp [intOf]
            · -- number i, the byte there, the next number
              by_cases hb : b = 45
              · subst hb
                go_wp2_with (with_reducible refine stop_at (o := ⟨some 30, _, _, _, _, _⟩) ?_)
                refine Lib.hid ?_
                refine list_ixP rfl _ _ _ rfl (.int .u8 45) (by first | rfl | kernel_rfl) ?_
                go_wp2_with fail
                go_ret
                exact ⟨rfl, rfl⟩
              · have hne : ((b : Int) == 45) = false := by rw [beq_eq_false_iff_ne]; omega
                go_wp2_with (with_reducible refine stop_at (o := ⟨some 30, _, _, _, _, _⟩) ?_)
                refine Lib.hid ?_
                refine list_ixP rfl _ _ _ rfl (.int .u8 45) (by first | rfl | kernel_rfl) ?_
                go_wp2_with fail
                go_roundw
                case rel => exact ⟨6, by decide, rfl, Lib.hid (fun j hj => by
                  have hj2 : j < 5 ∨ j = 5 := by omega
                  rcases hj2 with hj2 | rfl
                  · exact HNE.out j hj2
                  · exact fun he => hb he.symm), trivial⟩
                case measure => simp [intOf]
            · -- number i, the byte there, the next number
              by_cases hb : b = 46
              · subst hb
                go_wp2_with (with_reducible refine stop_at (o := ⟨some 30, _, _, _, _, _⟩) ?_)
                refine Lib.hid ?_
                refine list_ixP rfl _ _ _ rfl (.int .u8 46) (by first | rfl | kernel_rfl) ?_
                go_wp2_with fail
                go_ret
                exact ⟨rfl, rfl⟩
              · have hne : ((b : Int) == 46) = false := by rw [beq_eq_false_iff_ne]; omega
                go_wp2_with (with_reducible refine stop_at (o := ⟨some 30, _, _, _, _, _⟩) ?_)
                refine Lib.hid ?_
                refine list_ixP rfl _ _ _ rfl (.int .u8 46) (by first | rfl | kernel_rfl) ?_
                go_wp2_with fail
                go_roundw
                case rel => exact ⟨7, by decide, rfl, Lib.hid (fun j hj => by
                  have hj2 : j < 6 ∨ j = 6 := by omega
                  rcases hj2 with hj2 | rfl
                  · exact HNE.out j hj2
                  · exact fun he => hb he.symm), trivial⟩
                case measure => simp [intOf]
            · -- number i, the byte there, the next number
              by_cases hb : b = 47
              · subst hb
                go_wp2_with (with_reducible refine stop_at (o := ⟨some 30, _, _, _, _, _⟩) ?_)
                refine Lib.hid ?_
                refine list_ixP rfl _ _ _ rfl (.int .u8 47) (by first | rfl | kernel_rfl) ?_
                go_wp2_with fail
                go_ret
                exact ⟨rfl, rfl⟩
              · have hne : ((b : Int) == 47) = false := by rw [beq_eq_false_iff_ne]; omega
                go_wp2_with (with_reducible refine stop_at (o := ⟨some 30, _, _, _, _, _⟩) ?_)
                refine Lib.hid ?_
                refine list_ixP rfl _ _ _ rfl (.int .u8 47) (by first | rfl | kernel_rfl) ?_
                go_wp2_with fail
                go_roundw
                case rel => exact ⟨8, by decide, rfl, Lib.hid (fun j hj => by
                  have hj2 : j < 7 ∨ j = 7 := by omega
                  rcases hj2 with hj2 | rfl
                  · exact HNE.out j hj2
                  · exact fun he => hb he.symm), trivial⟩
                case measure => simp [intOf]
            · -- number i, the byte there, the next number
              by_cases hb : b = 58
              · subst hb
                go_wp2_with (with_reducible refine stop_at (o := ⟨some 30, _, _, _, _, _⟩) ?_)
                refine Lib.hid ?_
                refine list_ixP rfl _ _ _ rfl (.int .u8 58) (by first | rfl | kernel_rfl) ?_
                go_wp2_with fail
                go_ret
                exact ⟨rfl, rfl⟩
              · have hne : ((b : Int) == 58) = false := by rw [beq_eq_false_iff_ne]; omega
                go_wp2_with (with_reducible refine stop_at (o := ⟨some 30, _, _, _, _, _⟩) ?_)
                refine Lib.hid ?_
                refine list_ixP rfl _ _ _ rfl (.int .u8 58) (by first | rfl | kernel_rfl) ?_
                go_wp2_with fail
                go_roundw
                case rel => exact ⟨9, by decide, rfl, Lib.hid (fun j hj => by
                  have hj2 : j < 8 ∨ j = 8 := by omega
                  rcases hj2 with hj2 | rfl
                  · exact HNE.out j hj2
                  · exact fun he => hb he.symm), trivial⟩
                case measure => simp [intOf]
          · obtain rfl : i = 9 := by omega
            have ha := hal.out HNE.out
            go_wp2_with fail
            go_ret
            rw [ha]
            exact ⟨rfl, rfl⟩
      · have hc3 : 48 ≤ b := by omega
        have hc4 : 65 ≤ b := by omega
        have hc5 : ¬ b ≤ 57 := by omega
        go_enter Try.func47, Try.ntmps47
        go_wp2_with fail
        go_loopw [27] (fun iv wr => ∃ (i : Nat), i ≤ 9 ∧ iv = .int .i64 (i : Int) ∧ Hid (∀ j, j < i → spT.getD j 0 ≠ b) ∧ wr = w) (fun iv _ => 9 - (intOf iv).toNat)
        case atStart => exact ⟨0, by omega, rfl, Lib.hid (fun j hj => absurd hj (Nat.not_lt_zero _)), rfl⟩
        case round =>
          obtain ⟨i, hi, rfl, HNE, rfl⟩ := hrel
          rename World => w
          by_cases h9 : i < 9
          · have hk : i = 0 ∨ i = 1 ∨ i = 2 ∨ i = 3 ∨ i = 4 ∨ i = 5 ∨ i = 6 ∨ i = 7 ∨ i = 8 := by omega
            clear hi h9 hal
            rcases hk with rfl | rfl | rfl | rfl | rfl | rfl | rfl | rfl | rfl
            · -- number i, the byte there, the next number
              by_cases hb : b = 32
              · subst hb
                go_wp2_with (with_reducible refine stop_at (o := ⟨some 30, _, _, _, _, _⟩) ?_)
                refine Lib.hid ?_
                refine list_ixP rfl _ _ _ rfl (.int .u8 32) (by first | rfl | kernel_rfl) ?_
                go_wp2_with fail
                go_ret
                exact ⟨rfl, rfl⟩
              · have hne : ((b : Int) == 32) = false := by rw [beq_eq_false_iff_ne]; omega
                go_wp2_with (with_reducible refine stop_at (o := ⟨some 30, _, _, _, _, _⟩) ?_)
                refine Lib.hid ?_
                refine list_ixP rfl _ _ _ rfl (.int .u8 32) (by first | rfl | kernel_rfl) ?_
                go_wp2_with fail
                go_roundw
                case rel => exact ⟨1, by decide, rfl, Lib.hid (fun j hj => by
                  have hj2 : j < 0 ∨ j = 0 := by omega
                  rcases hj2 with hj2 | rfl
                  · exact HNE.out j hj2
                  · exact fun he => hb he.symm), trivial⟩
                case measure => simp [intOf]
            · -- number i, the byte there, the next number
              by_cases hb : b = 36
              · subst hb
                go_wp2_with (with_reducible refine stop_at (o := ⟨some 30, _, _, _, _, _⟩) ?_)
                refine Lib.hid ?_
                refine list_ixP rfl _ _ _ rfl (.int .u8 36) (by first | rfl | kernel_rfl) ?_
                go_wp2_with fail
                go_ret
                exact ⟨rfl, rfl⟩
              · have hne : ((b : Int) == 36) = false := by rw [beq_eq_false_iff_ne]; omega
                go_wp2_with (with_reducible refine stop_at (o := ⟨some 30, _, _, _, _, _⟩) ?_)
                refine Lib.hid ?_
                refine list_ixP rfl _ _ _ rfl (.int .u8 36) (by first | rfl | kernel_rfl) ?_
                go_wp2_with fail
                go_roundw
                case rel => exact ⟨2, by decide, rfl, Lib.hid (fun j hj => by
                  have hj2 : j < 1 ∨ j = 1 := by omega
                  rcases hj2 with hj2 | rfl
                  · exact HNE.out j hj2
                  · exact fun he => hb he.symm), trivial⟩
                case measure => simp [intOf]
            · -- number i, the byte there, the next number
              by_cases hb : b = 37
              · subst hb
                go_wp2_with (with_reducible refine stop_at (o := ⟨some 30, _, _, _, _, _⟩) ?_)
                refine Lib.hid ?_
                refine list_ixP rfl _ _ _ rfl (.int .u8 37) (by first | rfl | kernel_rfl) ?_
                go_wp2_with fail
                go_ret
                exact ⟨rfl, rfl⟩
              · have hne : ((b : Int) == 37) = false := by rw [beq_eq_false_iff_ne]; omega
                go_wp2_with (with_reducible refine stop_at (o := ⟨some 30, _, _, _, _, _⟩) ?_)
                refine Lib.hid ?_
                refine list_ixP rfl _ _ _ rfl (.int .u8 37) (by first | rfl | kernel_rfl) ?_
                go_wp2_with fail
                go_roundw
                case rel => exact ⟨3, by decide, rfl, Lib.hid (fun j hj => by
                  have hj2 : j < 2 ∨ j = 2 := by omega
                  rcases hj2 with hj2 | rfl
                  · exact HNE.out j hj2
                  · exact fun he => hb he.symm), trivial⟩
                case measure => simp [intOf]
            · -- number i, the byte there, the next number
              by_cases hb : b = 42
              · subst hb
                go_wp2_with (with_reducible refine stop_at (o := ⟨some 30, _, _, _, _, _⟩) ?_)
                refine Lib.hid ?_
                refine list_ixP rfl _ _ _ rfl (.int .u8 42) (by first | rfl | kernel_rfl) ?_
                go_wp2_with fail
                go_ret
                exact ⟨rfl, rfl⟩
              · have hne : ((b : Int) == 42) = false := by rw [beq_eq_false_iff_ne]; omega
                go_wp2_with (with_reducible refine stop_at (o := ⟨some 30, _, _, _, _, _⟩) ?_)
                refine Lib.hid ?_
                refine list_ixP rfl _ _ _ rfl (.int .u8 42) (by first | rfl | kernel_rfl) ?_
                go_wp2_with fail
                go_roundw
                case rel => exact ⟨4, by decide, rfl, Lib.hid (fun j hj => by
                  have hj2 : j < 3 ∨ j = 3 := by omega
                  rcases hj2 with hj2 | rfl
                  · exact HNE.out j hj2
                  · exact fun he => hb he.symm), trivial⟩
                case measure => simp [intOf]
            · -- number i, the byte there, the next number
              by_cases hb : b = 43
              · subst hb
                go_wp2_with (with_reducible refine stop_at (o := ⟨some 30, _, _, _, _, _⟩) ?_)
                refine Lib.hid ?_
                refine list_ixP rfl _ _ _ rfl (.int .u8 43) (by first | rfl | kernel_rfl) ?_
                go_wp2_with fail
                go_ret
                exact ⟨rfl, rfl⟩
              · have hne : ((b : Int) == 43) = false := by rw [beq_eq_false_iff_ne]; omega
                go_wp2_with (with_reducible refine stop_at (o := ⟨some 30, _, _, _, _, _⟩) ?_)
                refine Lib.hid ?_
                refine list_ixP rfl _ _ _ rfl (.int .u8 43) (by first | rfl | kernel_rfl) ?_
                go_wp2_with fail
                go_roundw
                case rel => exact ⟨5, by decide, rfl, Lib.hid (fun j hj => by
                  have hj2 : j < 4 ∨ j = 4 := by omega
                  rcases hj2 with hj2 | rfl
                  · exact HNE.out j hj2
                  · exact fun he => hb he.symm), trivial⟩
                case measure => simp [intOf]
            · -- number i, the byte there, the next number
              by_cases hb : b = 45
              · subst hb
                go_wp2_with (with_reducible refine stop_at (o := ⟨some 30, _, _, _, _, _⟩) ?_)
                refine Lib.hid ?_
                refine list_ixP rfl _ _ _ rfl (.int .u8 45) (by first | rfl | kernel_rfl) ?_
                go_wp2_with fail
                go_ret
                exact ⟨rfl, rfl⟩
              · have hne : ((b : Int) == 45) = false := by rw [beq_eq_false_iff_ne]; omega
                go_wp2_with (with_reducible refine stop_at (o := ⟨some 30, _, _, _, _, _⟩) ?_)
                refine Lib.hid ?_
                refine list_ixP rfl _ _ _ rfl (.int .u8 45) (by first | rfl | kernel_rfl) ?_
                go_wp2_with fail
                go_roundw
                case rel => exact ⟨6, by decide, rfl, Lib.hid (fun j hj => by
                  have hj2 : j < 5 ∨ j = 5 := by omega
                  rcases hj2 with hj2 | rfl
                  · exact HNE.out j hj2
                  · exact fun he => hb he.symm), trivial⟩
                case measure => simp [intOf]
            · -- number i, the byte there, the next number
              by_cases hb : b = 46
              · subst hb
                go_wp2_with (with_reducible refine stop_at (o := ⟨some 30, _, _, _, _, _⟩) ?_)
                refine Lib.hid ?_
                refine list_ixP rfl _ _ _ rfl (.int .u8 46) (by first | rfl | kernel_rfl) ?_
                go_wp2_with fail
                go_ret
                exact ⟨rfl, rfl⟩
              · have hne : ((b : Int) == 46) = false := by rw [beq_eq_false_iff_ne]; omega
                go_wp2_with (with_reducible refine stop_at (o := ⟨some 30, _, _, _, _, _⟩) ?_)
                refine Lib.hid ?_
                refine list_ixP rfl _ _ _ rfl (.int .u8 46) (by first | rfl | kernel_rfl) ?_
                go_wp2_with fail
                go_roundw
                case rel => exact ⟨7, by decide, rfl, Lib.hid (fun j hj => by
                  have hj2 : j < 6 ∨ j = 6 := by omega
                  rcases hj2 with hj2 | rfl
                  · exact HNE.out j hj2
                  · exact fun he => hb he.symm), trivial⟩
                case measure => simp [intOf]
            · -- number i, the byte there, the next number
              by_cases hb : b = 47
              · subst hb
                go_wp2_with (with_reducible refine stop_at (o := ⟨some 30, _, _, _, _, _⟩) ?_)
                refine Lib.hid ?_
                refine list_ixP rfl _ _ _ rfl (.int .u8 47) (by first | rfl | kernel_rfl) ?_
                go_wp2_with fail
                go_ret
                exact ⟨rfl, rfl⟩
              · have hne : ((b : Int) == 47) = false := by rw [beq_eq_false_iff_ne]; omega
                go_wp2_with (with_reducible refine stop_at (o := ⟨some 30, _, _, _, _, _⟩) ?_)
                refine Lib.hid ?_
                refine list_ixP rfl _ _ _ rfl (.int .u8 47) (by first | rfl | kernel_rfl) ?_
                go_wp2_with fail
                go_roundw
                case rel => exact ⟨8, by decide, rfl, Lib.hid (fun j hj => by
                  have hj2 : j < 7 ∨ j = 7 := by omega
                  rcases hj2 with hj2 | rfl
                  · exact HNE.out j hj2
                  · exact fun he => hb he.symm), trivial⟩
                case measure => simp [intOf]
            · -- number i, the byte there, the next number
              by_cases hb : b = 58
              · subst hb
                go_wp2_with (with_reducible refine stop_at (o := ⟨some 30, _, _, _, _, _⟩) ?_)
                refine Lib.hid ?_
                refine list_ixP rfl _ _ _ rfl (.int .u8 58) (by first | rfl | kernel_rfl) ?_
                go_wp2_with fail
                go_ret
                exact ⟨rfl, rfl⟩
              · have hne : ((b : Int) == 58) = false := by rw [beq_eq_false_iff_ne]; omega
                go_wp2_with (with_reducible refine stop_at (o := ⟨some 30, _, _, _, _, _⟩) ?_)
                refine Lib.hid ?_
                refine list_ixP rfl _ _ _ rfl (.int .u8 58) (by first | rfl | kernel_rfl) ?_
                go_wp2_with fail
                go_roundw
                case rel => exact ⟨9, by decide, rfl, Lib.hid (fun j hj => by
                  have hj2 : j < 8 ∨ j = 8 := by omega
                  rcases hj2 with hj2 | rfl
                  · exact HNE.out j hj2
                  · exact fun he => hb he.symm), trivial⟩
                case measure => simp [intOf]
          · obtain rfl : i = 9 := by omega
            have ha := hal.out HNE.out
            go_wp2_with fail
            go_ret
            rw [ha]
            exact ⟨rfl, rfl⟩
theorem alphaByte_any (n : Nat) (w : World) (h : n < 45) : Calls Try.prog 20 #[.int .i64 n] w fun e w' => e = .returned (.int .u8 (alphaB n : Nat)) ∧ w' = w := by
  obtain ⟨a1, a2, a3, a4⟩ := alphaB_all n h
  have HA := Lib.hid a4
  have HE := Lib.hid a3
  obtain ⟨t, ht⟩ : ∃ t, t = alphaB n := ⟨_, rfl⟩
  rw [← ht] at a1 a2 HA HE ⊢
  clear ht a3 a4
  go_enter Try.func20, Try.ntmps20
  go_wp2_with fail
  go_loopw [3] (fun bw wr => ∃ (b : Nat), 32 ≤ b ∧ b ≤ t ∧ bw = .int .u8 (b : Int) ∧ wr = w) (fun bw _ => t - (intOf bw).toNat)
  case atStart => exact ⟨32, Nat.le_refl _, a1, rfl, rfl⟩
  case round =>
    obtain ⟨b, hb1, hb2, rfl, rfl⟩ := hrel
    rename World => w
    have hq := qrAlpha_any b w (by omega)
    by_cases hlt : b < t
    · have hne := HA.out b hlt hb1
      have hnb : (alphaI b == (n : Int)) = false := by rw [beq_eq_false_iff_ne]; exact hne
      obtain ⟨ai, hai⟩ : ∃ ai, ai = alphaI b := ⟨_, rfl⟩
      rw [← hai] at hq hnb
      clear hne hai
      go_wp2_with fail
      refine hq.mono ?_
      rintro e w ⟨rfl, rfl⟩
      clear hq
      go_wp2_with fail
      go_roundw
      case rel => exact ⟨b + 1, by omega, by omega, by go_num, trivial⟩
      case measure => simp [intOf]; omega
    · obtain rfl : b = t := by omega
      rw [HE.out] at hq
      go_wp2_with fail
      refine hq.mono ?_
      rintro e w ⟨rfl, rfl⟩
      clear hq
      go_wp2_with fail
      go_ret
      exact ⟨rfl, rfl⟩
end Go.Proofs.Ytjkfkkenaiodoaa
