/-
  WALK: encoder.MaskUtil_applyMaskPenaltyRule3. (Printed by genrule3.py.)
-/
import Derived.Test.YtibnfgmhnmkfeaaPf8
import Derived.Deep.DeepCutAuto
import Derived.Deep.CutBlock
namespace Go.Proofs.Ytibnfgmhnmkfeaa
open Go.RowKit

theorem cell01 {c : Option Value} {b : Bool} (h : c = some (.int .i8 (if b = true then 1 else 0))) : (c = some (.int .i8 1) ∧ b = true) ∨ (c = some (.int .i8 0) ∧ b = false) := by
  cases b
  · exact .inr ⟨h, rfl⟩
  · exact .inl ⟨h, rfl⟩
theorem ByteM.slot {w : World} {p g n : Nat} {f : Nat → Nat → Bool} (h : ByteM w p g n f) (y : Nat) (hy : y < n) : w.cell? ⟨g, y, none⟩ = some (.slice (some ⟨g + 1 + y, 0, none⟩) n n) := by
  rw [h.rows.cell, List.getElem?_toArray, rowsA_at _ _ _ _ hy]
theorem ByteM.rdRow {w : World} {p g n : Nat} {f : Nat → Nat → Bool} (h : ByteM w p g n f) (y : Nat) (hy : y < n) (hn : n ≤ 60) : RdT w 73 (.slice (some ⟨g + 1 + y, 0, none⟩) n n) (i8v (rowF n f y)) := by
  have hm : n ≤ maxLen := by unfold maxLen; omega
  exact RdT.of_blk (h.row y hy) (by rw [i8v_len, rowF_len]) (by rw [i8v_len, rowF_len]; exact Nat.le_refl _) hm
set_option maxRecDepth 100000 in
set_option maxHeartbeats 4000000 in
theorem rule3_any (p g n : Nat) (f : Nat → Nat → Bool) (w : World) (h : ByteM w p g n f) (hn : n ≤ 60) :
    Calls Try.prog 40 #[.pointer (some ⟨p, 0, none⟩)] w fun e w' => e = .returned (.int .i64 ((40 * bothT f n n : Nat) : Int)) ∧ w' = w := by
  have HM := Lib.hid h
  clear h
  go_enter Try.func40, Try.ntmps40
  dsimp only [List.append]
  go_wp2_with fail
  refine (byteArray_any p g n f w HM.out).mono ?_
  rintro e w ⟨rfl, rfl⟩
  go_wp2_with fail
  refine (byteWidth_any p g n f w HM.out).mono ?_
  rintro e w ⟨rfl, rfl⟩
  go_wp2_with fail
  refine (byteHeight_any p g n f w HM.out).mono ?_
  rintro e w ⟨rfl, rfl⟩
  go_wp2_with fail
  go_loopw [3, 7] (fun pv yv wr => ∃ y : Nat, y ≤ n ∧ pv = .int .i64 (bothT f n y : Nat) ∧ yv = .int .i64 y ∧ wr = w) (fun _ yv _ => n - (intOf yv).toNat)
  case atStart => exact ⟨0, Nat.zero_le _, rfl, rfl, rfl⟩
  case round =>
    obtain ⟨y, hy, rfl, rfl, rfl⟩ := hrel
    by_cases hyn : y < n
    · have B1 := Lib.hid (bothT_le f n y)
      have B0 : Hid (2 * n * y ≤ 7200) := Lib.hid (Nat.le_trans (Nat.mul_le_mul (Nat.mul_le_mul_left 2 hn) hy) (by omega))
      obtain ⟨T0, hT0⟩ : ∃ T0, T0 = bothT f n y := ⟨_, rfl⟩
      have HT0 := Lib.hid hT0
      rw [← hT0]
      rw [← hT0] at B1
      have b0 : T0 ≤ 7200 := Nat.le_trans B1.out B0.out
      clear hT0 B0 B1
      go_wp2_with fail
      go_loopw [3, 8] (fun pv xv wq => ∃ x : Nat, x ≤ n ∧ pv = .int .i64 ((T0 + bothR f n y x : Nat) : Int) ∧ xv = .int .i64 x ∧ wq = wr) (fun _ xv _ => n - (intOf xv).toNat)
      case atStart => exact ⟨0, Nat.zero_le _, rfl, rfl, rfl⟩
      case round =>
        obtain ⟨x, hx, rfl, rfl, rfl⟩ := hrel
        by_cases hxn : x < n
        · obtain ⟨P, hP⟩ : ∃ P, P = T0 + bothR f n y x := ⟨_, rfl⟩
          have HP := Lib.hid hP
          rw [← hP]
          have b1 : P ≤ 7400 := by have := bothR_le f n y x; omega
          clear hP
          obtain ⟨h1, H1⟩ : ∃ h1, Hid (h1 = hitB (fun j => f j y) n true x) := ⟨_, Lib.hid rfl⟩
          obtain ⟨h2, H2⟩ : ∃ h2, Hid (h2 = hitB (fun j => f x j) n true y) := ⟨_, Lib.hid rfl⟩
          have a0 := HM.out.slot y hyn
          go_upto_region 12 with fail
          go_cut [3, 7, 8, 103] (fun v3 v7 v8 vh wx => v3 = .int .i64 (P : Nat) ∧ v7 = .int .i64 y ∧ v8 = .int .i64 x ∧ vh = .bool h1 ∧ wx = wr)
          case first => as_aux_lemma =>
            by_cases hT : x + 6 < n
            · have Q7 := Lib.hid (show decide (x + 6 < n) = true from decide_eq_true hT)
              have C0 := Lib.hid (cell01 (HM.out.cell x y (by omega) hyn))
              obtain ⟨k1, e1⟩ : ∃ k : Nat, k = x + 1 := ⟨_, rfl⟩
              have s1 : (x : Int) + 1 = (k1 : Int) := by omega
              have b1 : k1 < n := by omega
              have C1 := Lib.hid (cell01 (HM.out.cell k1 y (by omega) hyn))
              obtain ⟨k2, e2⟩ : ∃ k : Nat, k = x + 2 := ⟨_, rfl⟩
              have s2 : (x : Int) + 2 = (k2 : Int) := by omega
              have b2 : k2 < n := by omega
              have C2 := Lib.hid (cell01 (HM.out.cell k2 y (by omega) hyn))
              obtain ⟨k3, e3⟩ : ∃ k : Nat, k = x + 3 := ⟨_, rfl⟩
              have s3 : (x : Int) + 3 = (k3 : Int) := by omega
              have b3 : k3 < n := by omega
              have C3 := Lib.hid (cell01 (HM.out.cell k3 y (by omega) hyn))
              obtain ⟨k4, e4⟩ : ∃ k : Nat, k = x + 4 := ⟨_, rfl⟩
              have s4 : (x : Int) + 4 = (k4 : Int) := by omega
              have b4 : k4 < n := by omega
              have C4 := Lib.hid (cell01 (HM.out.cell k4 y (by omega) hyn))
              obtain ⟨k5, e5⟩ : ∃ k : Nat, k = x + 5 := ⟨_, rfl⟩
              have s5 : (x : Int) + 5 = (k5 : Int) := by omega
              have b5 : k5 < n := by omega
              have C5 := Lib.hid (cell01 (HM.out.cell k5 y (by omega) hyn))
              obtain ⟨k6, e6⟩ : ∃ k : Nat, k = x + 6 := ⟨_, rfl⟩
              have s6 : (x : Int) + 6 = (k6 : Int) := by omega
              have b6 : k6 < n := by omega
              have C6 := Lib.hid (cell01 (HM.out.cell k6 y (by omega) hyn))
              have E1 := Lib.hid e1
              have E2 := Lib.hid e2
              have E3 := Lib.hid e3
              have E4 := Lib.hid e4
              have E5 := Lib.hid e5
              have E6 := Lib.hid e6
              clear e1 e2 e3 e4 e5 e6
              rcases C0.out with ⟨r0, q0⟩ | ⟨r0, q0⟩
              rotate_left
              · skip
                have Q0 := Lib.hid q0; clear q0 C0
                have HE : Hid (h1 = false) := Lib.hid (by rw [H1.out]; unfold hitB; simp only [Q0.out, Bool.false_and, Bool.and_false])
                go_wp2_with fail
                go_meet
                exact ⟨rfl, rfl, rfl, by rw [HE.out], rfl⟩
              have Q0 := Lib.hid q0; clear q0 C0
              rcases C1.out with ⟨r1, q1⟩ | ⟨r1, q1⟩
              · skip
                rw [E1.out] at q1
                have Q1 := Lib.hid q1; clear q1 C1
                have HE : Hid (h1 = false) := Lib.hid (by rw [H1.out]; unfold hitB; simp only [Q1.out, Bool.not_true, Bool.false_and, Bool.and_false])
                go_wp2_with fail
                go_meet
                exact ⟨rfl, rfl, rfl, by rw [HE.out], rfl⟩
              rw [E1.out] at q1
              have Q1 := Lib.hid q1; clear q1 C1
              rcases C2.out with ⟨r2, q2⟩ | ⟨r2, q2⟩
              rotate_left
              · skip
                rw [E2.out] at q2
                have Q2 := Lib.hid q2; clear q2 C2
                have HE : Hid (h1 = false) := Lib.hid (by rw [H1.out]; unfold hitB; simp only [Q2.out, Bool.false_and, Bool.and_false])
                go_wp2_with fail
                go_meet
                exact ⟨rfl, rfl, rfl, by rw [HE.out], rfl⟩
              rw [E2.out] at q2
              have Q2 := Lib.hid q2; clear q2 C2
              rcases C3.out with ⟨r3, q3⟩ | ⟨r3, q3⟩
              rotate_left
              · skip
                rw [E3.out] at q3
                have Q3 := Lib.hid q3; clear q3 C3
                have HE : Hid (h1 = false) := Lib.hid (by rw [H1.out]; unfold hitB; simp only [Q3.out, Bool.false_and, Bool.and_false])
                go_wp2_with fail
                go_meet
                exact ⟨rfl, rfl, rfl, by rw [HE.out], rfl⟩
              rw [E3.out] at q3
              have Q3 := Lib.hid q3; clear q3 C3
              rcases C4.out with ⟨r4, q4⟩ | ⟨r4, q4⟩
              rotate_left
              · skip
                rw [E4.out] at q4
                have Q4 := Lib.hid q4; clear q4 C4
                have HE : Hid (h1 = false) := Lib.hid (by rw [H1.out]; unfold hitB; simp only [Q4.out, Bool.false_and, Bool.and_false])
                go_wp2_with fail
                go_meet
                exact ⟨rfl, rfl, rfl, by rw [HE.out], rfl⟩
              rw [E4.out] at q4
              have Q4 := Lib.hid q4; clear q4 C4
              rcases C5.out with ⟨r5, q5⟩ | ⟨r5, q5⟩
              · skip
                rw [E5.out] at q5
                have Q5 := Lib.hid q5; clear q5 C5
                have HE : Hid (h1 = false) := Lib.hid (by rw [H1.out]; unfold hitB; simp only [Q5.out, Bool.not_true, Bool.false_and, Bool.and_false])
                go_wp2_with fail
                go_meet
                exact ⟨rfl, rfl, rfl, by rw [HE.out], rfl⟩
              rw [E5.out] at q5
              have Q5 := Lib.hid q5; clear q5 C5
              rcases C6.out with ⟨r6, q6⟩ | ⟨r6, q6⟩
              rotate_left
              · skip
                rw [E6.out] at q6
                have Q6 := Lib.hid q6; clear q6 C6
                have HE : Hid (h1 = false) := Lib.hid (by rw [H1.out]; unfold hitB; simp only [Q6.out, Bool.false_and, Bool.and_false])
                go_wp2_with fail
                go_meet
                exact ⟨rfl, rfl, rfl, by rw [HE.out], rfl⟩
              rw [E6.out] at q6
              have Q6 := Lib.hid q6; clear q6 C6
              have HZ : Hid (h1 = (lightB (fun j => f j y) n ((x : Int) - 4) true || lightB (fun j => f j y) n ((x : Int) + 7) true)) := Lib.hid (by rw [H1.out]; unfold hitB; simp only [Q7.out, Q0.out, Q1.out, Q2.out, Q3.out, Q4.out, Q5.out, Q6.out, Bool.true_and, Bool.not_false])
              go_wp2_with fail
              refine (whiteH_any _ (rowF n f y) (fun j => f j y) n ((x : Int) - 4) _ _ (HM.out.rdRow y hyn hn) (rowF_len _ _ _) (fun j hj => rowF_getD n f y j hj) (by omega) hn (by omega) (by omega) (by omega)).mono ?_
              rintro e w ⟨rfl, rfl⟩
              generalize lightB (fun j => f j y) n ((x : Int) - 4) true = u1 at HZ ⊢
              cases u1
              · go_wp2_with fail
                refine (whiteH_any _ (rowF n f y) (fun j => f j y) n ((x : Int) + 7) _ _ (HM.out.rdRow y hyn hn) (rowF_len _ _ _) (fun j hj => rowF_getD n f y j hj) (by omega) hn (by omega) (by omega) (by omega)).mono ?_
                rintro e w ⟨rfl, rfl⟩
                generalize lightB (fun j => f j y) n ((x : Int) + 7) true = u2 at HZ ⊢
                cases u2
                · skip
                  have HE : Hid (h1 = false) := Lib.hid (HZ.out.trans (by simp))
                  go_wp2_with fail
                  go_meet
                  exact ⟨rfl, rfl, rfl, by rw [HE.out], rfl⟩
                · skip
                  have HE : Hid (h1 = true) := Lib.hid (HZ.out.trans (by simp))
                  go_wp2_with fail
                  go_meet
                  exact ⟨rfl, rfl, rfl, by rw [HE.out], rfl⟩
              · skip
                have HE : Hid (h1 = true) := Lib.hid (HZ.out.trans (by simp))
                go_wp2_with fail
                go_meet
                exact ⟨rfl, rfl, rfl, by rw [HE.out], rfl⟩
            · have HE : Hid (h1 = false) := Lib.hid (by rw [H1.out]; unfold hitB; rw [decide_eq_false hT]; rfl)
              have hT2 : ¬ (x : Int) + 6 < (n : Int) := by omega
              go_wp2_with fail
              go_meet
              exact ⟨rfl, rfl, rfl, by rw [HE.out], rfl⟩
          case rest =>
            rename World => wx
            obtain ⟨rfl, rfl, rfl, rfl, rfl⟩ := hcut
            go_upto_if 103 with fail
            go_cut [3, 7, 8] (fun v3 v7 v8 wy => v3 = .int .i64 ((P + h1.toNat : Nat) : Int) ∧ v7 = .int .i64 y ∧ v8 = .int .i64 x ∧ wy = wx)
            case first =>
              clear H1 H2
              cases h1
              · go_wp2_with fail
                go_meet
                exact ⟨rfl, rfl, rfl, rfl⟩
              · go_wp2_with fail
                go_meet
                exact ⟨by simp, rfl, rfl, rfl⟩
            case rest =>
              rename World => wy
              obtain ⟨rfl, rfl, rfl, rfl⟩ := hcut
              obtain ⟨R, hR⟩ : ∃ R, R = P + h1.toNat := ⟨_, rfl⟩
              have HRR := Lib.hid hR
              rw [← hR]
              have b2 : R ≤ 7401 := by have := tn_le h1; omega
              clear hR
              go_upto_region 14 with fail
              go_cut [3, 7, 8, 202] (fun v3 v7 v8 vh wz => v3 = .int .i64 (R : Nat) ∧ v7 = .int .i64 y ∧ v8 = .int .i64 x ∧ vh = .bool h2 ∧ wz = wy)
              case first => as_aux_lemma =>
                by_cases hT : y + 6 < n
                · have Q7 := Lib.hid (show decide (y + 6 < n) = true from decide_eq_true hT)
                  have C0 := Lib.hid (cell01 (HM.out.cell x y hxn (by omega)))
                  obtain ⟨k1, e1⟩ : ∃ k : Nat, k = y + 1 := ⟨_, rfl⟩
                  have s1 : (y : Int) + 1 = (k1 : Int) := by omega
                  have b1 : k1 < n := by omega
                  have C1 := Lib.hid (cell01 (HM.out.cell x k1 hxn (by omega)))
                  have a1 := HM.out.slot k1 (by omega)
                  obtain ⟨k2, e2⟩ : ∃ k : Nat, k = y + 2 := ⟨_, rfl⟩
                  have s2 : (y : Int) + 2 = (k2 : Int) := by omega
                  have b2 : k2 < n := by omega
                  have C2 := Lib.hid (cell01 (HM.out.cell x k2 hxn (by omega)))
                  have a2 := HM.out.slot k2 (by omega)
                  obtain ⟨k3, e3⟩ : ∃ k : Nat, k = y + 3 := ⟨_, rfl⟩
                  have s3 : (y : Int) + 3 = (k3 : Int) := by omega
                  have b3 : k3 < n := by omega
                  have C3 := Lib.hid (cell01 (HM.out.cell x k3 hxn (by omega)))
                  have a3 := HM.out.slot k3 (by omega)
                  obtain ⟨k4, e4⟩ : ∃ k : Nat, k = y + 4 := ⟨_, rfl⟩
                  have s4 : (y : Int) + 4 = (k4 : Int) := by omega
                  have b4 : k4 < n := by omega
                  have C4 := Lib.hid (cell01 (HM.out.cell x k4 hxn (by omega)))
                  have a4 := HM.out.slot k4 (by omega)
                  obtain ⟨k5, e5⟩ : ∃ k : Nat, k = y + 5 := ⟨_, rfl⟩
                  have s5 : (y : Int) + 5 = (k5 : Int) := by omega
                  have b5 : k5 < n := by omega
                  have C5 := Lib.hid (cell01 (HM.out.cell x k5 hxn (by omega)))
                  have a5 := HM.out.slot k5 (by omega)
                  obtain ⟨k6, e6⟩ : ∃ k : Nat, k = y + 6 := ⟨_, rfl⟩
                  have s6 : (y : Int) + 6 = (k6 : Int) := by omega
                  have b6 : k6 < n := by omega
                  have C6 := Lib.hid (cell01 (HM.out.cell x k6 hxn (by omega)))
                  have a6 := HM.out.slot k6 (by omega)
                  have E1 := Lib.hid e1
                  have E2 := Lib.hid e2
                  have E3 := Lib.hid e3
                  have E4 := Lib.hid e4
                  have E5 := Lib.hid e5
                  have E6 := Lib.hid e6
                  clear e1 e2 e3 e4 e5 e6
                  rcases C0.out with ⟨r0, q0⟩ | ⟨r0, q0⟩
                  rotate_left
                  · skip
                    have Q0 := Lib.hid q0; clear q0 C0
                    have HE : Hid (h2 = false) := Lib.hid (by rw [H2.out]; unfold hitB; simp only [Q0.out, Bool.false_and, Bool.and_false])
                    go_wp2_with fail
                    go_meet
                    exact ⟨rfl, rfl, rfl, by rw [HE.out], rfl⟩
                  have Q0 := Lib.hid q0; clear q0 C0
                  rcases C1.out with ⟨r1, q1⟩ | ⟨r1, q1⟩
                  · skip
                    rw [E1.out] at q1
                    have Q1 := Lib.hid q1; clear q1 C1
                    have HE : Hid (h2 = false) := Lib.hid (by rw [H2.out]; unfold hitB; simp only [Q1.out, Bool.not_true, Bool.false_and, Bool.and_false])
                    go_wp2_with fail
                    go_meet
                    exact ⟨rfl, rfl, rfl, by rw [HE.out], rfl⟩
                  rw [E1.out] at q1
                  have Q1 := Lib.hid q1; clear q1 C1
                  rcases C2.out with ⟨r2, q2⟩ | ⟨r2, q2⟩
                  rotate_left
                  · skip
                    rw [E2.out] at q2
                    have Q2 := Lib.hid q2; clear q2 C2
                    have HE : Hid (h2 = false) := Lib.hid (by rw [H2.out]; unfold hitB; simp only [Q2.out, Bool.false_and, Bool.and_false])
                    go_wp2_with fail
                    go_meet
                    exact ⟨rfl, rfl, rfl, by rw [HE.out], rfl⟩
                  rw [E2.out] at q2
                  have Q2 := Lib.hid q2; clear q2 C2
                  rcases C3.out with ⟨r3, q3⟩ | ⟨r3, q3⟩
                  rotate_left
                  · skip
                    rw [E3.out] at q3
                    have Q3 := Lib.hid q3; clear q3 C3
                    have HE : Hid (h2 = false) := Lib.hid (by rw [H2.out]; unfold hitB; simp only [Q3.out, Bool.false_and, Bool.and_false])
                    go_wp2_with fail
                    go_meet
                    exact ⟨rfl, rfl, rfl, by rw [HE.out], rfl⟩
                  rw [E3.out] at q3
                  have Q3 := Lib.hid q3; clear q3 C3
                  rcases C4.out with ⟨r4, q4⟩ | ⟨r4, q4⟩
                  rotate_left
                  · skip
                    rw [E4.out] at q4
                    have Q4 := Lib.hid q4; clear q4 C4
                    have HE : Hid (h2 = false) := Lib.hid (by rw [H2.out]; unfold hitB; simp only [Q4.out, Bool.false_and, Bool.and_false])
                    go_wp2_with fail
                    go_meet
                    exact ⟨rfl, rfl, rfl, by rw [HE.out], rfl⟩
                  rw [E4.out] at q4
                  have Q4 := Lib.hid q4; clear q4 C4
                  rcases C5.out with ⟨r5, q5⟩ | ⟨r5, q5⟩
                  · skip
                    rw [E5.out] at q5
                    have Q5 := Lib.hid q5; clear q5 C5
                    have HE : Hid (h2 = false) := Lib.hid (by rw [H2.out]; unfold hitB; simp only [Q5.out, Bool.not_true, Bool.false_and, Bool.and_false])
                    go_wp2_with fail
                    go_meet
                    exact ⟨rfl, rfl, rfl, by rw [HE.out], rfl⟩
                  rw [E5.out] at q5
                  have Q5 := Lib.hid q5; clear q5 C5
                  rcases C6.out with ⟨r6, q6⟩ | ⟨r6, q6⟩
                  rotate_left
                  · skip
                    rw [E6.out] at q6
                    have Q6 := Lib.hid q6; clear q6 C6
                    have HE : Hid (h2 = false) := Lib.hid (by rw [H2.out]; unfold hitB; simp only [Q6.out, Bool.false_and, Bool.and_false])
                    go_wp2_with fail
                    go_meet
                    exact ⟨rfl, rfl, rfl, by rw [HE.out], rfl⟩
                  rw [E6.out] at q6
                  have Q6 := Lib.hid q6; clear q6 C6
                  have HZ : Hid (h2 = (lightB (fun j => f x j) n ((y : Int) - 4) true || lightB (fun j => f x j) n ((y : Int) + 7) true)) := Lib.hid (by rw [H2.out]; unfold hitB; simp only [Q7.out, Q0.out, Q1.out, Q2.out, Q3.out, Q4.out, Q5.out, Q6.out, Bool.true_and, Bool.not_false])
                  go_wp2_with fail
                  refine (whiteV_any _ f (fun j => f x j) n x ((y : Int) - 4) _ _ (HM.out.rows_ hn) (fun j _ => rfl) (by omega) hxn (by omega) (by omega) (by omega)).mono ?_
                  rintro e w ⟨rfl, rfl⟩
                  generalize lightB (fun j => f x j) n ((y : Int) - 4) true = u1 at HZ ⊢
                  cases u1
                  · go_wp2_with fail
                    refine (whiteV_any _ f (fun j => f x j) n x ((y : Int) + 7) _ _ (HM.out.rows_ hn) (fun j _ => rfl) (by omega) hxn (by omega) (by omega) (by omega)).mono ?_
                    rintro e w ⟨rfl, rfl⟩
                    generalize lightB (fun j => f x j) n ((y : Int) + 7) true = u2 at HZ ⊢
                    cases u2
                    · skip
                      have HE : Hid (h2 = false) := Lib.hid (HZ.out.trans (by simp))
                      go_wp2_with fail
                      go_meet
                      exact ⟨rfl, rfl, rfl, by rw [HE.out], rfl⟩
                    · skip
                      have HE : Hid (h2 = true) := Lib.hid (HZ.out.trans (by simp))
                      go_wp2_with fail
                      go_meet
                      exact ⟨rfl, rfl, rfl, by rw [HE.out], rfl⟩
                  · skip
                    have HE : Hid (h2 = true) := Lib.hid (HZ.out.trans (by simp))
                    go_wp2_with fail
                    go_meet
                    exact ⟨rfl, rfl, rfl, by rw [HE.out], rfl⟩
                · have HE : Hid (h2 = false) := Lib.hid (by rw [H2.out]; unfold hitB; rw [decide_eq_false hT]; rfl)
                  have hT2 : ¬ (y : Int) + 6 < (n : Int) := by omega
                  go_wp2_with fail
                  go_meet
                  exact ⟨rfl, rfl, rfl, by rw [HE.out], rfl⟩
              case rest =>
                rename World => wz
                obtain ⟨rfl, rfl, rfl, rfl, rfl⟩ := hcut
                have HF : Hid (T0 + bothR f n y (x + 1) = R + h2.toNat) := Lib.hid (by
                  have e1 : bothR f n y (x + 1) = bothR f n y x + (hitB (fun j => f j y) n true x).toNat + (hitB (fun j => f x j) n true y).toNat := rfl
                  rw [e1, ← H1.out, ← H2.out, HRR.out, HP.out]; omega)
                clear H1 H2 HRR HP
                cases h2
                · go_wp2_with fail
                  go_roundw
                  case rel => exact ⟨x + 1, by omega, by rw [HF.out]; rfl, by go_num, trivial⟩
                  case measure => simp [intOf]; omega
                · go_wp2_with fail
                  go_roundw
                  case rel => exact ⟨x + 1, by omega, by rw [HF.out]; go_num, by go_num, trivial⟩
                  case measure => simp [intOf]; omega
        · obtain rfl : x = n := by omega
          have HF : Hid (bothT f x (y + 1) = T0 + bothR f x y x) := Lib.hid (by rw [HT0.out]; rfl)
          go_wp2_with fail
          go_roundw
          case rel => exact ⟨y + 1, by omega, by rw [HF.out], by go_num, trivial⟩
          case measure => simp [intOf]; omega
    · obtain rfl : y = n := by omega
      have B1 := bothT_le f y y
      have B0 : 2 * y * y ≤ 7200 := Nat.le_trans (Nat.mul_le_mul (Nat.mul_le_mul_left 2 hn) hn) (by omega)
      obtain ⟨T, hTT⟩ : ∃ T, T = bothT f y y := ⟨_, rfl⟩
      rw [← hTT] at B1 ⊢
      have HTT := Lib.hid hTT
      have hT : T ≤ 7200 := Nat.le_trans B1 B0
      clear B0 B1 hTT
      go_wp2_with fail
      go_ret
      exact ⟨ret_int (by have := HTT.out; omega), rfl⟩
end Go.Proofs.Ytibnfgmhnmkfeaa
