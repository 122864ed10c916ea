/-
  THE LAW's walk: laws.FnQRPenaltyFinders.
-/
import Derived.Test.YtibnfgmhnmkfeaaPf11
import Derived.Test.YtibnfgmhnmkfeaaPf3
namespace Go.Proofs.Ytibnfgmhnmkfeaa
open Go.RowKit

theorem RowsV.form {w : World} {T1 T2 : TypeId} {v : Value} {n : Nat} {F : Nat → List Value} (h : RowsV w T1 T2 v n F) : ∃ A cap, v = .slice A n cap := by
  obtain ⟨vs, h1, h2, -⟩ := h
  obtain ⟨A, cap, hv, -⟩ := h1
  exact ⟨A, cap, by rw [hv, h2]⟩
set_option maxRecDepth 100000 in
set_option maxHeartbeats 1000000 in
theorem penaltyFinders_walk (v : Value) (rows : List (List Bool)) (W : World) (hv : RowsB W W.heap.size v rows) :
    Calls Try.prog 3 #[v] W fun e w' => e = .returned (.bool true) ∧ Below W.heap.size W w' := by
  have hfit := fits7_any v rows W hv
  have hcells := cells_any v rows W hv
  clear hv
  go_enter Try.func3, Try.ntmps3
  go_wp2_with fail
  refine hfit.mono ?_
  rintro e w ⟨⟨r, rfl⟩, rfl⟩
  cases r
  · go_wp2_with fail
    go_ret
    exact ⟨rfl, brf w⟩
  · go_wp2_with fail
    refine hcells.mono ?_
    rintro e w1 ⟨n, f, v1, v2, rfl, hn, hC, hS, hb⟩
    have HC := Lib.hid hC
    have HS := Lib.hid hS
    have HB := Lib.hid hb
    obtain ⟨A, cap, rfl⟩ := hC.form
    clear hC hS hb hfit hcells
    by_cases h0 : n = 0
    · subst h0
      go_wp2_with fail
      go_ret
      exact ⟨rfl, HB.out⟩
    · have hpos : 0 < n := by omega
      have t0 : ((n : Int) == 0) = false := by simp; omega
      go_wp2_with fail
      refine (penalty_any _ n f w1 HC.out hpos hn).mono ?_
      rintro e w2 ⟨rfl, hb2⟩
      have HB2 := Lib.hid (bup HB.out hb2)
      have HS2 := Lib.hid (HS.out.up hb2)
      clear hb2 HB HS HC
      have l1 := hitsT_le f n false n
      have l2 := hitsT_le (fun c r => f r c) n false n
      have l3 := hitsT_le f n true n
      have l4 := hitsT_le (fun c r => f r c) n true n
      have l5 : n * n ≤ 1600 := Nat.le_trans (Nat.mul_le_mul hn hn) (by omega)
      have m1 := hitsT_mono f n n
      have m2 := hitsT_mono (fun c r => f r c) n n
      have hG := both_eq f n
      have F1 := Lib.hid (finders_any v2 n f false · · hpos hn)
      have F2 := Lib.hid (finders_any v2 n f true · · hpos hn)
      have F3 : Hid (∀ v3 a, RowsT a v3 (rowsF n n (fun c r => f r c)) → Calls Try.prog 11 #[v3, .bool false] a fun e w' => e = .returned (.int .i64 (hitsT (fun c r => f r c) n false n : Nat)) ∧ w' = a) := Lib.hid (fun v3 a h => finders_any v3 n _ false a h hpos hn)
      have F4 : Hid (∀ v3 a, RowsT a v3 (rowsF n n (fun c r => f r c)) → Calls Try.prog 11 #[v3, .bool true] a fun e w' => e = .returned (.int .i64 (hitsT (fun c r => f r c) n true n : Nat)) ∧ w' = a) := Lib.hid (fun v3 a h => finders_any v3 n _ true a h hpos hn)
      generalize bothT f n n = G at *
      generalize hitsT f n false n = A1 at *
      generalize hitsT f n true n = A2 at *
      generalize hitsT (fun c r => f r c) n false n = B1 at *
      generalize hitsT (fun c r => f r c) n true n = B2 at *
      have q1 : A1 ≤ 1600 := Nat.le_trans l1 l5
      have q2 : B1 ≤ 1600 := Nat.le_trans l2 l5
      have q3 : A2 ≤ 1600 := Nat.le_trans l3 l5
      have q4 : B2 ≤ 1600 := Nat.le_trans l4 l5
      clear l1 l2 l3 l4 l5 t0 h0
      subst hG
      go_wp2_with fail
      refine (F1.out w2 HS2.out).mono ?_
      rintro e w2 ⟨rfl, rfl⟩
      go_wp2_with fail
      refine (turned_any v2 f n w2 HS2.out hpos (by omega)).mono ?_
      rintro e w3 ⟨v3, rfl, hT3, hb3⟩
      have HB3 := Lib.hid (bup HB2.out hb3)
      have HS3 := Lib.hid (HS2.out.up hb3)
      have HT3 := Lib.hid hT3
      clear hb3 hT3 HB2 HS2
      go_wp2_with fail
      refine (F3.out v3 w3 HT3.out).mono ?_
      rintro e w3 ⟨rfl, rfl⟩
      go_wp2_with fail
      refine (F2.out w3 HS3.out).mono ?_
      rintro e w3 ⟨rfl, rfl⟩
      go_wp2_with fail
      refine (turned_any v2 f n w3 HS3.out hpos (by omega)).mono ?_
      rintro e w4 ⟨v4, rfl, hT4, hb4⟩
      have HB4 := Lib.hid (bup HB3.out hb4)
      have HT4 := Lib.hid hT4
      clear hb4 hT4 HB3 HS3
      go_wp2_with fail
      refine (F4.out v4 w4 HT4.out).mono ?_
      rintro e w4 ⟨rfl, rfl⟩
      go_wp2_with fail
      go_ret
      exact ⟨rfl, HB4.out⟩
end Go.Proofs.Ytibnfgmhnmkfeaa
