/-
  WALK: QRCodeReader.moduleSize. PLAIN: the module size, as a float. PLAIN: small floats that are whole numbers. PLAIN: products of small whole floats. PLAIN: quotients of small whole floats. PLAIN: the nearest integer of a small whole float.
-/
import Derived.Test.YtcldipbboidjbaaRqA
import Derived.Test.YtcldipbboidjbaaBmw
import Derived.Laws.FloatArith
namespace Go.Proofs.Ytcldipbboidjbaa
open Go.RowKit

set_option maxRecDepth 100000 in
set_option maxHeartbeats 4000000 in
theorem moduleSize_any (q : Value) (p g W H x0 y0 n b fl : Nat) (K : Nat → Nat) (f : Nat → Nat → Bool) (w : World) (h : MatAt w p g W H f) (hb : Blk w b 3 #[.int .i64 x0, .int .i64 y0]) (hW : W ≤ 2000) (hH : H ≤ 2000) (hx : x0 + n < W) (hy : y0 + n < H)
    (k0 : K 0 = 0) (k1 : ∀ i, i ≤ n → K i ≤ 4) (k2 : ∀ i, i < n → K (i + 1) = K i ∨ K (i + 1) = K i + 1) (k3 : K n = 4) (k4 : K (n + 1) = 5) (hfl : floatBits .quo .f64 (floatOfInt .f64 (n : Int)) 4619567317775286272 = some fl) (hf : ∀ i, i ≤ n → f (x0 + i) (y0 + i) = decide (K (i + 1) % 2 = 0)) :
    Calls Try.prog 87 #[q, .slice (some ⟨b, 0, none⟩) 2 2, .pointer (some ⟨p, 0, none⟩)] w fun e w' => w' = w ∧ e = .returned (.tuple #[.float .f64 fl, .nilIface]) := by
  have b0 : w.cell? ⟨b, 0, none⟩ = some (.int .i64 x0) := by rw [hb.cell]; rfl
  have b1 : w.cell? ⟨b, 1, none⟩ = some (.int .i64 y0) := by rw [hb.cell]; rfl
  have cW : w.cell? ⟨p, 0, none⟩ = some (.int .i64 W) := by obtain ⟨ws, hm, _⟩ := h; rw [hm.head.cell]; rfl
  have cH : w.cell? ⟨p, 1, none⟩ = some (.int .i64 H) := by obtain ⟨ws, hm, _⟩ := h; rw [hm.head.cell]; rfl
  have HM := Lib.hid h; have HF := Lib.hid hf; have HFL := Lib.hid hfl; have K1 := Lib.hid k1; have K2 := Lib.hid k2; have K0 := Lib.hid k0; have K3 := Lib.hid k3; have K4 := Lib.hid k4
  clear h hf hfl k0 k1 k2 k3 k4 hb
  obtain ⟨w1, rfl⟩ : ∃ wo : World, wo = w := ⟨_, rfl⟩
  go_enter Try.func87, Try.ntmps87
  go_wp2_with fail
  refine (matHeight_any p g W H f _ HM.out).mono ?_
  rintro e w2 ⟨rfl, rfl⟩
  go_wp2_with fail
  refine (matWidth_any p g W H f _ HM.out).mono ?_
  rintro e w3 ⟨rfl, rfl⟩
  go_wp2_with fail
  obtain ⟨w1, rfl⟩ : ∃ wo : World, wo = w3 := ⟨_, rfl⟩
  go_loopw [10, 11, 12, 13] (fun xv yv bv tv wr => ∃ (i : Nat) (B : Bool), i ≤ n ∧ xv = .int .i64 ((x0 + i : Nat) : Int) ∧ yv = .int .i64 ((y0 + i : Nat) : Int) ∧ bv = .bool B ∧ tv = .int .i64 (K i : Int) ∧ Hid (B = decide (K i % 2 = 0)) ∧ wr = w1) (fun xv _ _ _ _ => x0 + n - (intOf xv).toNat)
  case atStart => exact ⟨0, true, by omega, rfl, rfl, rfl, by rw [K0.out]; rfl, Lib.hid (by rw [K0.out]; rfl), rfl⟩
  case round =>
    obtain ⟨i, B, hi, rfl, rfl, rfl, rfl, HB, rfl⟩ := hrel
    rename World => w1
    have hxi : x0 + i < W := by omega
    have hyi : y0 + i < H := by omega
    have hG := matGet_any p g W H (x0 + i) (y0 + i) f w1 HM.out hxi hyi (by omega) (by omega)
    rw [HF.out i hi] at hG
    have hk := K1.out i hi
    by_cases hl : i < n
    · rcases K2.out i hl with he | he
      · rw [he, ← HB.out] at hG
        have HE := Lib.hid he; clear he
        generalize hkk : K i = kk at *
        have HKK := Lib.hid hkk; clear hkk
        rcases B with _ | _
        all_goals
          go_wp2_with fail
          refine hG.mono ?_
          rintro e w2 ⟨rfl, rfl⟩
          clear hG
          go_wp2_with fail
          go_roundw
          case rel => exact ⟨i + 1, _, by omega, by go_num, by go_num, rfl, by rw [HE.out], Lib.hid (by rw [HE.out]; exact HB.out), trivial⟩
          case measure => simp [intOf]; omega
      · have hk5 := K1.out (i + 1) (by omega)
        have hn : decide ((K i + 1) % 2 = 0) = !B := by
          rw [HB.out]
          rcases Nat.mod_two_eq_zero_or_one (K i) with h2 | h2
          · rw [decide_eq_true h2]; simp; omega
          · rw [decide_eq_false (by omega : ¬ K i % 2 = 0)]; simp; omega
        rw [he, hn] at hG
        rw [he] at hk5
        have HE := Lib.hid he; clear he
        have HN := Lib.hid hn; clear hn
        generalize hkk : K i = kk at *
        have HKK := Lib.hid hkk; clear hkk
        rcases B with _ | _
        all_goals
          go_wp2_with fail
          refine hG.mono ?_
          rintro e w2 ⟨rfl, rfl⟩
          clear hG
          go_wp2_with fail
          go_roundw
          case rel => exact ⟨i + 1, _, by omega, by go_num, by go_num, rfl, by rw [HE.out]; go_num, Lib.hid (by rw [HE.out]; exact HN.out.symm), trivial⟩
          case measure => simp [intOf]; omega
    · obtain rfl : i = n := by omega
      have hB := HB.out
      rw [K3.out] at hB
      obtain rfl : B = true := hB
      rw [K4.out] at hG
      rw [K3.out]
      clear hk
      go_wp2_with fail
      refine hG.mono ?_
      rintro e w2 ⟨rfl, rfl⟩
      clear hG
      have hq1 : (((x0 : Int) + (i : Int)) == (W : Int)) = false := by rw [beq_eq_false_iff_ne]; omega
      have hq2 : (((y0 : Int) + (i : Int)) == (H : Int)) = false := by rw [beq_eq_false_iff_ne]; omega
      go_wp2_with fail
      have ec : ((x0 : Int) + (i : Int) - (x0 : Int)) = (i : Int) := by omega
      rw [ec]
      have hq := run_float_arith (P := Try.prog) w2 .quo 141 .f64 _ _ _ HFL.out
      rw [hq]
      clear hq ec
      go_wp2_with fail
      go_ret2
      exact ⟨rfl, rfl⟩
end Go.Proofs.Ytcldipbboidjbaa
namespace Go.Proofs.Ytcldipbboidjbaa
open Go.RowKit

theorem size_float (s : Nat) (h1 : 1 ≤ s) (h6 : s ≤ 6) : floatBits .quo .f64 (floatOfInt .f64 ((7 * s : Nat) : Int)) 4619567317775286272 = some (floatOfInt .f64 (s : Int)) := by
  have h : s = 1 ∨ s = 2 ∨ s = 3 ∨ s = 4 ∨ s = 5 ∨ s = 6 := by omega
  rcases h with rfl | rfl | rfl | rfl | rfl | rfl <;> rfl
end Go.Proofs.Ytcldipbboidjbaa
namespace Go.Proofs.Ytcldipbboidjbaa
open Go.RowKit

theorem half_float (s : Nat) (h1 : 1 ≤ s) (h6 : s ≤ 6) : ∃ r, floatBits .quo .f64 (floatOfInt .f64 (s : Int)) 4611686018427387904 = some r ∧ floatToIntVal .f64 r .i64 = some ((s / 2 : Nat) : Int) := by
  have h : s = 1 ∨ s = 2 ∨ s = 3 ∨ s = 4 ∨ s = 5 ∨ s = 6 := by omega
  rcases h with rfl | rfl | rfl | rfl | rfl | rfl <;> exact ⟨_, rfl, rfl⟩
end Go.Proofs.Ytcldipbboidjbaa
namespace Go.Proofs.Ytcldipbboidjbaa
open Go.RowKit

set_option maxRecDepth 100000 in
theorem mul_float_all : (List.range 178).all (fun k => (List.range 7).all (fun s => floatBits .mul .f64 (floatOfInt .f64 (k : Int)) (floatOfInt .f64 (s : Int)) == some (floatOfInt .f64 ((k * s : Nat) : Int)) && floatToIntVal .f64 (floatOfInt .f64 ((k * s : Nat) : Int)) .i64 == some ((k * s : Nat) : Int))) = true := by
  decide +kernel
theorem mul_float (k s : Nat) (hk : k < 178) (hs : s < 7) : floatBits .mul .f64 (floatOfInt .f64 (k : Int)) (floatOfInt .f64 (s : Int)) = some (floatOfInt .f64 ((k * s : Nat) : Int)) ∧ floatToIntVal .f64 (floatOfInt .f64 ((k * s : Nat) : Int)) .i64 = some ((k * s : Nat) : Int) := by
  have h := List.all_eq_true.1 (List.all_eq_true.1 mul_float_all k (List.mem_range.2 hk)) s (List.mem_range.2 hs)
  rw [Bool.and_eq_true, beq_iff_eq, beq_iff_eq] at h
  exact h
end Go.Proofs.Ytcldipbboidjbaa
namespace Go.Proofs.Ytcldipbboidjbaa
open Go.RowKit

set_option maxRecDepth 100000 in
theorem quo_float_all : (List.range 178).all (fun k => (List.range 6).all (fun s => floatBits .quo .f64 (floatOfInt .f64 ((k * (s + 1) : Nat) : Int)) (floatOfInt .f64 ((s + 1 : Nat) : Int)) == some (floatOfInt .f64 (k : Int)))) = true := by
  decide +kernel
theorem quo_float (k s : Nat) (hk : k < 178) (hs : s < 6) : floatBits .quo .f64 (floatOfInt .f64 ((k * (s + 1) : Nat) : Int)) (floatOfInt .f64 ((s + 1 : Nat) : Int)) = some (floatOfInt .f64 (k : Int)) := by
  have h := List.all_eq_true.1 (List.all_eq_true.1 quo_float_all k (List.mem_range.2 hk)) s (List.mem_range.2 hs)
  rw [beq_iff_eq] at h
  exact h
end Go.Proofs.Ytcldipbboidjbaa
namespace Go.Proofs.Ytcldipbboidjbaa
open Go.RowKit

set_option maxRecDepth 100000 in
theorem near_float_all : (List.range 178).all (fun k => (floatBits .add .f64 (floatOfInt .f64 (k : Int)) 4602678819172646912).any (fun r => floatToIntVal .f64 r .i64 == some (k : Int))) = true := by
  decide +kernel
theorem near_float (k : Nat) (hk : k < 178) : ∃ r, floatBits .add .f64 (floatOfInt .f64 (k : Int)) 4602678819172646912 = some r ∧ floatToIntVal .f64 r .i64 = some (k : Int) := by
  have h := List.all_eq_true.1 near_float_all k (List.mem_range.2 hk)
  cases hb : floatBits .add .f64 (floatOfInt .f64 (k : Int)) 4602678819172646912 with
  | none => rw [hb] at h; cases h
  | some r => rw [hb] at h; exact ⟨r, rfl, beq_iff_eq.1 h⟩
end Go.Proofs.Ytcldipbboidjbaa
