/-
  THE WALK OF THE LAW FnQRWordsRead.
-/
import Derived.Test.YtfgajbhgkdkmbaaRc1
import Derived.Test.YtfgajbhgkdkmbaaWy3
namespace Go.Proofs.Ytfgajbhgkdkmbaa
open Go.RowKit

theorem bitOf_rows (W H : Nat) (f : Nat → Nat → Bool) (x y : Nat) (hx : x < W) (hy : y < H) : bitOf (rowsF W H f) x y = f x y := by
  unfold bitOf
  rw [rowsF_at _ _ _ _ hy, List.getD, List.getElem?_eq_getElem (by rw [rowF_len]; exact hx), Option.getD_some, rowF_at]
theorem rowsF_len_all (W H : Nat) (f : Nat → Nat → Bool) : ∀ r ∈ rowsF W H f, r.length = W := fun r hr => by
  unfold rowsF at hr
  obtain ⟨y, _, rfl⟩ := List.mem_map.1 hr
  simp
theorem lawVersion_any (a : Nat) (w : World) (h : a < 256) : Calls Try.prog 7 #[.int .u8 a] w fun e w' => e = .returned (.int .i64 ((1 + a % 40 : Nat) : Int)) ∧ w' = w := by
  have t1 : Int.tmod (a : Int) 40 = ((a % 40 : Nat) : Int) := by rw [Int.tmod_eq_emod_of_nonneg (by omega)]; simp
  have t2 : (a : Int) % 40 = ((a % 40 : Nat) : Int) := by omega
  have t3 : (1 : Int) + ((a % 40 : Nat) : Int) = ((1 + a % 40 : Nat) : Int) := by omega
  have hb : 1 + a % 40 ≤ 40 := by omega
  generalize 1 + a % 40 = q at *
  generalize a % 40 = r at *
  go_enter Try.func7, Try.ntmps7
  go_wp2
  go_ret
  exact ⟨rfl, rfl⟩
theorem lawLevel_any (a : Nat) (w : World) (h : a < 256) : Calls Try.prog 10 #[.int .u8 a] w fun e w' => e = .returned (.int .i64 ((a % 4 : Nat) : Int)) ∧ w' = w := by
  have t1 : Int.tmod (a : Int) 4 = ((a % 4 : Nat) : Int) := by rw [Int.tmod_eq_emod_of_nonneg (by omega)]; simp
  have t2 : (a : Int) % 4 = ((a % 4 : Nat) : Int) := by omega
  generalize a % 4 = r at *
  go_enter Try.func10, Try.ntmps10
  go_wp2
  go_ret
  exact ⟨rfl, rfl⟩
theorem lawMask_any (a : Nat) (w : World) (h : a < 256) : Calls Try.prog 11 #[.int .u8 a] w fun e w' => e = .returned (.int .i64 ((a % 8 : Nat) : Int)) ∧ w' = w := by
  have t1 : Int.tmod (a : Int) 8 = ((a % 8 : Nat) : Int) := by rw [Int.tmod_eq_emod_of_nonneg (by omega)]; simp
  have t2 : (a : Int) % 8 = ((a % 8 : Nat) : Int) := by omega
  generalize a % 8 = r at *
  go_enter Try.func11, Try.ntmps11
  go_wp2
  go_ret
  exact ⟨rfl, rfl⟩
set_option maxRecDepth 100000 in
theorem qrWords_any (v l mk : Nat) (bits : List Bool) (s : Value) (w : World) (hs : RowsT w s (rowsF (17 + 4 * v) (17 + 4 * v) (modF v l mk bits))) (h1 : 1 ≤ v) (h40 : v ≤ 40) (hl : l < 4) (hmk : mk < 8) :
    Calls Try.prog 27 #[s] w fun e w' => ∃ s', e = .returned (.tuple #[s', .bool true]) ∧ RdT w' 5 s' (yv (byteL bits (totOf v))) ∧ Below w.heap.size w w' := by
  have hp := parser_any (17 + 4 * v) s _ w hs (rowsF_len _ _ _) (rowsF_len_all _ _ _) (by omega) (by omega) (by omega)
  have hrw := fun p m g w' hp' hm' hb hbg => readWords_any p m g w.heap.size v l mk bits w' hp' hm' h1 h40 hl hmk hb hbg
  have HRW := Lib.hid hrw
  clear hs hrw
  go_enter Try.func27, Try.ntmps27
  go_wp2_with fail
  refine hp.mono ?_
  rintro e w1 ⟨p, m, g, rfl, hp1, hm1, hlp, hlm, hlg, hb1⟩
  have hm2 : MatAt w1 m g (17 + 4 * v) (17 + 4 * v) (modF v l mk bits) := hm1.congr (fun x y hx hy => bitOf_rows _ _ _ x y hx hy)
  have hrw := HRW.out p m g w1 hp1 hm2 hlp hlg
  have HB := Lib.hid hb1
  clear hp1 hm1 hm2 hb1 HRW hp
  go_wp2_with fail
  refine hrw.mono ?_
  rintro e w2 ⟨s', rfl, hr, hb2⟩
  have HR := Lib.hid hr
  have HB2 := Lib.hid (HB.out.trans hb2)
  clear hr hb2 hrw
  go_wp2_with fail
  go_ret2
  exact ⟨s', rfl, HR.out, HB2.out⟩
set_option maxRecDepth 100000 in
set_option maxHeartbeats 4000000 in
theorem wordsRead_walk (v0 : Value) (l : List Int) (vN lN mN : Nat) (W : World) (hs : Rd W W.heap.size v0 (vals .u8 l)) (hwf : ∀ n ∈ l, (Lit.int .u8 n).wf = true) (h1 : vN < 256) (h2 : lN < 256) (h3 : mN < 256) :
    Calls Try.prog 6 #[v0, .int .u8 vN, .int .u8 lN, .int .u8 mN] W fun e w' => e = .returned (.bool true) ∧ Below W.heap.size W w' := by
  have hl : ∀ x ∈ l, 0 ≤ x ∧ x < 256 := fun x hx => by
    have := bounds_u8 (hwf x hx)
    omega
  have hv := lawVersion_any vN W h1
  have hlv := fun w' => lawLevel_any lN w' h2
  have hmv := fun w' => lawMask_any mN w' h3
  have hv1 : 1 ≤ 1 + vN % 40 := by omega
  have hv40 : 1 + vN % 40 ≤ 40 := by omega
  have hl4 : lN % 4 < 4 := by omega
  have hm8 : mN % 8 < 8 := by omega
  generalize 1 + vN % 40 = v at *
  generalize lN % 4 = lv at *
  generalize mN % 8 = mk at *
  by_cases hlen : l.length ≤ 2147483647
  · have hfl := qrFill_any v0 l v W hs hl hlen hv1 hv40
    obtain ⟨A, cap, rfl, q1, q2, -⟩ := hs
    rw [vals_len] at q1 hfl ⊢
    have HFL := Lib.hid hfl
    clear hfl hl hwf
    go_enter Try.func6, Try.ntmps6
    go_wp2_with fail
    refine hv.mono ?_
    rintro e W ⟨rfl, rfl⟩
    have hfl := HFL.out
    clear hv
    go_wp2_with fail
    refine hfl.mono ?_
    rintro e w1 ⟨s1, bits, rfl, hbl, hb, hw1⟩
    have HB := Lib.hid hb
    have HBL := Lib.hid hbl
    have HW1 := Lib.hid hw1
    clear hfl HFL hb hbl hw1
    go_wp2_with fail
    refine (hlv _).mono ?_
    rintro e w1 ⟨rfl, rfl⟩
    go_wp2_with fail
    refine (hmv _).mono ?_
    rintro e w1 ⟨rfl, rfl⟩
    have hqm := qrModules_any s1 bits v lv mk w1 HB.out.rd hv1 hv40 hl4 hm8
    clear hlv hmv
    go_wp2_with fail
    refine hqm.mono ?_
    rintro e w2 ⟨g, bs, rfl, hbl, hmk, hg, hw2⟩
    have hqw := qrWords_any v lv mk bits _ w2 (hmk.rowsT hbl ⟨by omega, by omega⟩) hv1 hv40 hl4 hm8
    have HB2 := Lib.hid (HB.out.up hw2)
    have HW2 := Lib.hid (bup HW1.out hw2)
    clear hqm hbl hmk hg hw2 HB HW1
    go_wp2_with fail
    refine hqw.mono ?_
    rintro e w3 ⟨s3, rfl, hr, hw3⟩
    have HR := Lib.hid hr
    have HW3 := Lib.hid (bup HW2.out hw3)
    have hqb := qrBytesOf_any s1 bits (totOf v) w3 (HB2.out.up hw3).rd HBL.out ((sizOk hv1 hv40 (l := 0) (by decide)).2.2.2)
    clear hqw hr hw3 HB2 HW2
    go_wp2_with fail
    refine hqb.mono ?_
    rintro e w4 ⟨s4, rfl, hr4, hw4⟩
    have hsb := sameBytes_any s3 s4 _ w4 (HR.out.up hw4) hr4
    have HW4 := Lib.hid (bup HW3.out hw4)
    clear hqb hr4 hw4 HW3 HR
    go_wp2_with fail
    refine hsb.mono ?_
    rintro e w5 ⟨rfl, hw5⟩
    have HW5 := Lib.hid (bup HW4.out hw5)
    clear hsb hw5
    go_wp2_with fail
    go_ret
    exact ⟨rfl, HW5.out⟩
  · obtain ⟨A, cap, rfl, q1, q2, -⟩ := hs
    rw [vals_len] at q1 ⊢
    unfold maxLen at q2
    clear hl hwf
    go_enter Try.func6, Try.ntmps6
    go_wp2_with fail
    go_ret
    exact ⟨rfl, brf W⟩
end Go.Proofs.Ytfgajbhgkdkmbaa
