/-
  WALKS: spec.AZStuff.
-/
import Derived.Test.YtopfdmmimgnciaaGreatDoorV01
import Derived.Test.YtopfdmmimgnciaaGreatDoorV10
import Derived.Test.YtopfdmmimgnciaaGreatDoorV02
namespace Go.Proofs.YtopfdmmimgnciaaGreatDoor
open Go.RowKit

theorem pad_next (W : Nat) (bits : List Bool) (m : Nat) (hm : m < W) : (padT W bits).take (m + 1) = (padT W bits).take m ++ [bits.getD m true] := by
  have hl : m < (padT W bits).length := by unfold padT; rw [List.length_append, List.length_replicate]; omega
  rw [List.take_succ_eq_append_getElem hl]
  congr 2
  have he : (padT W bits)[m]? = some (bits.getD m true) := by
    unfold padT
    by_cases h : m < bits.length
    · rw [List.getElem?_append_left h, List.getD, List.getElem?_eq_getElem h]; rfl
    · rw [List.getElem?_append_right (by omega), List.getElem?_replicate, if_pos (by omega), List.getD, List.getElem?_eq_none (by omega)]; rfl
  rw [List.getElem?_eq_getElem hl] at he
  injection he
theorem val_next (W : Nat) (bits : List Bool) (i m : Nat) (hm : m < W) : valL ((padT W (bits.drop i)).take (m + 1)) = 2 * valL ((padT W (bits.drop i)).take m) + (bits.getD (i + m) true).toNat := by
  rw [pad_next W _ m hm, valL_snoc]
  congr 2
  simp [List.getD, List.getElem?_drop]
/-- One word more. -/
theorem stuff_one (W : Nat) (bits : List Bool) (R ws : List Nat) (i : Nat) (hi : i < bits.length) (h : ∃ f, (bits.drop i).length ≤ f ∧ ws ++ stuffF W f (bits.drop i) = R) (x m : Nat) (hm : 0 < m)
    (hx : (valL ((padT W (bits.drop i)).take (W - 1)) = 0 ∧ x = 1 ∧ m = W - 1) ∨ (valL ((padT W (bits.drop i)).take (W - 1)) ≠ 0 ∧ valL ((padT W (bits.drop i)).take (W - 1)) = 2 ^ (W - 1) - 1 ∧ x = 2 ^ W - 2 ∧ m = W - 1) ∨
      (valL ((padT W (bits.drop i)).take (W - 1)) ≠ 0 ∧ valL ((padT W (bits.drop i)).take (W - 1)) ≠ 2 ^ (W - 1) - 1 ∧ x = valL ((padT W (bits.drop i)).take W) ∧ m = W)) :
    ∃ f, (bits.drop (i + m)).length ≤ f ∧ (ws ++ [x]) ++ stuffF W f (bits.drop (i + m)) = R := by
  obtain ⟨f, hf, hR⟩ := h
  have hd : (bits.drop i).length = bits.length - i := List.length_drop
  cases f with
  | zero => omega
  | succ f =>
    refine ⟨f, by rw [List.length_drop]; omega, ?_⟩
    rw [← hR, List.append_assoc]
    congr 1
    conv => rhs; unfold stuffF
    rw [if_neg (by omega)]
    rcases hx with ⟨c1, rfl, rfl⟩ | ⟨c1, c2, rfl, rfl⟩ | ⟨c1, c2, rfl, rfl⟩
    · rw [if_pos c1, List.drop_drop]; rfl
    · rw [if_neg c1, if_pos c2, List.drop_drop]; rfl
    · rw [if_neg c1, if_neg c2, List.drop_drop]; rfl
set_option maxRecDepth 100000 in
set_option maxHeartbeats 4000000 in
theorem azStuff_any (W : Nat) (hW : W = 6 ∨ W = 8 ∨ W = 10 ∨ W = 12) (v : Value) (bits : List Bool) (w : World) (hv : Rd w w.heap.size v (bv bits)) (hb : bits.length ≤ 90000) :
    Calls Tryz.prog 18 #[v, .int .i64 W] w fun e w' => ∃ u, e = .returned u ∧ RdT w' 3 u (nv (stuffF W bits.length bits)) ∧ Below w.heap.size w w' := by
  obtain ⟨i0, hi0, hz0, hz1, hz2⟩ := info_parts info_int
  obtain ⟨A, ca, rfl, ha1, ha2, ha3⟩ := hv
  simp only [bv_len] at *
  unfold maxLen at ha2
  have HA := Lib.hid ha3; clear ha3
  obtain ⟨T, hT⟩ : ∃ T, T = bits.length := ⟨_, rfl⟩
  obtain ⟨R, hR⟩ : ∃ R, R = stuffF W bits.length bits := ⟨_, rfl⟩
  have HR := Lib.hid hR.symm
  rw [← hR]
  clear hR
  rw [← hT] at ha1 HA hb ⊢
  have hT1 : T ≤ bits.length := by omega
  have hT2 : bits.length ≤ T := by omega
  clear hT
  rcases hW with rfl | rfl | rfl | rfl
  · -- 6 = W, 5 = W - 1, 31 = 2 ^ (W - 1) - 1, 62 = 2 ^ W - 2
    show Calls Tryz.prog 18 #[.slice A T ca, .int .i64 6] w _
    go_enter Tryz.func18, Tryz.ntmps18
    go_wp2_with fail
    go_loopw [5, 6] (fun ov iv wr => ∃ (i n : Nat) (ws : List Nat), n ≤ i ∧ i ≤ T + 6 ∧ iv = .int .i64 (i : Int) ∧ Hid (wr.ownsRow w.heap.size 3 1 ov n (nv ws)) ∧ Hid (∃ f, (bits.drop i).length ≤ f ∧ ws ++ stuffF 6 f (bits.drop i) = R) ∧ Hid (Below w.heap.size w wr)) (fun _ iv _ => T - (intOf iv).toNat)
    case atStart => exact ⟨0, 0, [], Nat.le_refl _, Nat.zero_le _, rfl, Lib.hid (own_nil _ _ _), Lib.hid ⟨_, Nat.le_refl _, by rw [List.drop_zero, List.nil_append]; exact HR.out⟩, Lib.hid (brf w)⟩
    case round =>
      obtain ⟨i, n, ws, hni, hiT, rfl, HO, HF, HW⟩ := hrel
      by_cases hlt : i < T
      · obtain ⟨ba, oa, rfl, hba, hca⟩ := HA.out (by omega)
        have HCA := Lib.hid hca; clear hca
        clear hiT
        go_wp2_with fail
        obtain ⟨wx, rfl⟩ : ∃ wx : World, wx = wr := ⟨_, rfl⟩
        go_loop [6, 7, 8] (fun iv xv mv => ∃ (m x : Nat), m ≤ 5 ∧ x < 2 ^ m ∧ iv = .int .i64 ((i + m : Nat) : Int) ∧ xv = .int .i64 (x : Int) ∧ mv = .int .i64 (m : Int) ∧ Hid (x = valL ((padT 6 (bits.drop i)).take m))) (fun _ _ mv => 5 - (intOf mv).toNat)
        case atStart => exact ⟨0, 0, Nat.zero_le _, by decide, rfl, rfl, rfl, Lib.hid (by simp [valL])⟩
        case round =>
          obtain ⟨m, x, hm, hx, rfl, rfl, rfl, HX⟩ := hrel
          have hp : 2 ^ m ≤ 2 ^ 5 := Nat.pow_le_pow_right (by decide) hm
          have hp2 : 2 ^ (m + 1) = 2 * 2 ^ m := by rw [Nat.pow_succ]; omega
          by_cases hml : m < 5
          · have hnx := val_next 6 bits i m (by omega)
            rw [← HX.out] at hnx
            obtain ⟨q, hq⟩ : ∃ q, q = i + m := ⟨_, rfl⟩
            rw [← hq] at hnx ⊢
            have HQ := Lib.hid hq
            have hqi : i + (m + 1) = q + 1 := by omega
            have HQI := Lib.hid hqi
            have HP2 := Lib.hid hp2
            clear hq hqi hp2
            have hqb : q < 100000 := by have := HQ.out; omega
            by_cases hqT : q < T
            · have hql : q < bits.length := by omega
              have hgd : bits.getD q true = bits[q] := by rw [List.getD, List.getElem?_eq_getElem hql]; rfl
              have cB := cell_up (HCA.out q _ (bv_at bits q hql)) HW.out
              rw [hgd] at hnx
              generalize bits[q] = bb at *
              have HNX := Lib.hid hnx
              clear hgd hnx
              cases bb
              · go_wp2_with fail
                go_round
                case rel => exact ⟨m + 1, 2 * x, by omega, by have := HP2.out; omega, by rw [HQI.out]; go_num, by go_num, by go_num, Lib.hid (by rw [HNX.out]; rfl)⟩
                case measure => simp [intOf]; omega
              · go_wp2_with fail
                go_round
                case rel => exact ⟨m + 1, 2 * x + 1, by omega, by have := HP2.out; omega, by rw [HQI.out]; go_num, by go_num, by go_num, Lib.hid (by rw [HNX.out]; rfl)⟩
                case measure => simp [intOf]; omega
            · have hgd : bits.getD q true = true := by rw [List.getD, List.getElem?_eq_none (by omega)]; rfl
              rw [hgd] at hnx
              have HNX := Lib.hid hnx
              clear hgd hnx
              go_wp2_with fail
              go_round
              case rel => exact ⟨m + 1, 2 * x + 1, by omega, by have := HP2.out; omega, by rw [HQI.out]; go_num, by go_num, by go_num, Lib.hid (by rw [HNX.out]; rfl)⟩
              case measure => simp [intOf]; omega
          · obtain rfl : m = 5 := by omega
            clear hp hp2 hm hml
            have hil : i < bits.length := by omega
            have hsz := HW.out.size
            obtain ⟨q, hq⟩ : ∃ q, q = i + 5 := ⟨_, rfl⟩
            have hqb : q ≤ T + 5 := by omega
            have hnq : n + 1 ≤ q := by omega
            have hiq : i < q := by omega
            rw [← hq]
            have HQ := Lib.hid hq
            clear hq
            by_cases hx0 : x = 0
            · subst hx0
              have hnew := stuff_one 6 bits R ws i hil HF.out 1 5 (by decide) (.inl ⟨HX.out.symm, rfl, rfl⟩)
              rw [← HQ.out] at hnew
              have HNW := Lib.hid hnew
              clear hnew HX HF
              go_wp2_with (at_builtin; refine list_app_rd _ rfl _ _ 25 rfl w.heap.size 3 i0 _ 8 Tryz.underlying25 hi0 hz0 hz1 hz2 rfl _ n (nv ws) rfl (HO.out.alloc _) _ _ [.int .i64 (1)] rfl (Rd.one rfl 3 (.int .i64 (1))) (fun u hu => by rw [List.mem_singleton] at hu; rw [hu]; rfl) (by simp only [List.length_singleton]; unfold maxLen; omega) (by simp only [List.length_singleton]; omega) (Nat.le_trans hsz (by simp)) ?_; intro v5 w5 ho5 hg5)
              have HB5 := Lib.hid (below_grown (bal HW.out (.cells #[.int .i64 (1)] 3)) hg5 (HO.out.alloc _) (Nat.le_trans hsz (by simp)))
              have hnx : nv ws ++ [.int .i64 (1)] = nv (ws ++ [1]) := by simp [nv]
              rw [List.length_singleton, hnx] at ho5
              have HO5 := Lib.hid ho5; clear ho5 hg5 hnx HO HW
              go_wp2
              go_roundw
              case rel => exact ⟨q, n + 1, ws ++ [1], by omega, by omega, rfl, HO5, HNW, HB5⟩
              case measure => simp [intOf]; omega
            · by_cases hx1 : x = 31
              · subst hx1
                have hnew := stuff_one 6 bits R ws i hil HF.out 62 5 (by decide) (.inr (.inl ⟨by rw [← HX.out]; decide, HX.out.symm, rfl, rfl⟩))
                rw [← HQ.out] at hnew
                have HNW := Lib.hid hnew
                clear hnew HX HF
                go_wp2_with (at_builtin; refine list_app_rd _ rfl _ _ 25 rfl w.heap.size 3 i0 _ 8 Tryz.underlying25 hi0 hz0 hz1 hz2 rfl _ n (nv ws) rfl (HO.out.alloc _) _ _ [.int .i64 (62)] rfl (Rd.one rfl 3 (.int .i64 (62))) (fun u hu => by rw [List.mem_singleton] at hu; rw [hu]; rfl) (by simp only [List.length_singleton]; unfold maxLen; omega) (by simp only [List.length_singleton]; omega) (Nat.le_trans hsz (by simp)) ?_; intro v5 w5 ho5 hg5)
                have HB5 := Lib.hid (below_grown (bal HW.out (.cells #[.int .i64 (62)] 3)) hg5 (HO.out.alloc _) (Nat.le_trans hsz (by simp)))
                have hnx : nv ws ++ [.int .i64 (62)] = nv (ws ++ [62]) := by simp [nv]
                rw [List.length_singleton, hnx] at ho5
                have HO5 := Lib.hid ho5; clear ho5 hg5 hnx HO HW
                go_wp2
                go_roundw
                case rel => exact ⟨q, n + 1, ws ++ [62], by omega, by omega, rfl, HO5, HNW, HB5⟩
                case measure => simp [intOf]; omega
              · have hnx := val_next 6 bits i 5 (by decide)
                rw [← HX.out, ← HQ.out] at hnx
                have hne0 : valL ((padT 6 (bits.drop i)).take (6 - 1)) ≠ 0 := by rw [show 6 - 1 = 5 from rfl, ← HX.out]; exact hx0
                have hne1 : valL ((padT 6 (bits.drop i)).take (6 - 1)) ≠ 2 ^ (6 - 1) - 1 := by rw [show 6 - 1 = 5 from rfl, ← HX.out]; exact hx1
                have hnew := stuff_one 6 bits R ws i hil HF.out _ 6 (by decide) (.inr (.inr ⟨hne0, hne1, rfl, rfl⟩))
                rw [show (6 : Nat) = 5 + 1 from rfl] at hnew
                rw [show (padT (5 + 1) (bits.drop i)) = padT 6 (bits.drop i) from rfl, hnx, show i + (5 + 1) = q + 1 by have := HQ.out; omega, show (5 + 1 : Nat) = 6 from rfl] at hnew
                clear hnx hne0 hne1 HX HF
                have hxi0 : ¬ ((x : Int) = 0) := by omega
                have hxi1 : ¬ ((x : Int) = 31) := by omega
                by_cases hqT : q < T
                · have hql : q < bits.length := by omega
                  have hgd : bits.getD q true = bits[q] := by rw [List.getD, List.getElem?_eq_getElem hql]; rfl
                  have cB := cell_up (HCA.out q _ (bv_at bits q hql)) HW.out
                  rw [hgd] at hnew
                  generalize bits[q] = bb at *
                  clear hgd
                  cases bb
                  · have hnew2 : ∃ f, (bits.drop (q + 1)).length ≤ f ∧ (ws ++ [2 * x]) ++ stuffF 6 f (bits.drop (q + 1)) = R := hnew
                    have HNW := Lib.hid hnew2
                    clear hnew hnew2
                    go_wp2_with (at_builtin; refine list_app_rd _ rfl _ _ 25 rfl w.heap.size 3 i0 _ 8 Tryz.underlying25 hi0 hz0 hz1 hz2 rfl _ n (nv ws) rfl (HO.out.alloc _) _ _ [.int .i64 (2 * (x : Int))] rfl (Rd.one rfl 3 (.int .i64 (2 * (x : Int)))) (fun u hu => by rw [List.mem_singleton] at hu; rw [hu]; rfl) (by simp only [List.length_singleton]; unfold maxLen; omega) (by simp only [List.length_singleton]; omega) (Nat.le_trans hsz (by simp)) ?_; intro v5 w5 ho5 hg5)
                    have HB5 := Lib.hid (below_grown (bal HW.out (.cells #[.int .i64 (2 * (x : Int))] 3)) hg5 (HO.out.alloc _) (Nat.le_trans hsz (by simp)))
                    have hnx : nv ws ++ [.int .i64 (2 * (x : Int))] = nv (ws ++ [2 * x]) := by simp [nv]
                    rw [List.length_singleton, hnx] at ho5
                    have HO5 := Lib.hid ho5; clear ho5 hg5 hnx HO HW
                    go_wp2
                    go_roundw
                    case rel => exact ⟨q + 1, n + 1, ws ++ [2 * x], by omega, by omega, by go_num, HO5, HNW, HB5⟩
                    case measure => simp [intOf]; omega
                  · have hnew2 : ∃ f, (bits.drop (q + 1)).length ≤ f ∧ (ws ++ [2 * x + 1]) ++ stuffF 6 f (bits.drop (q + 1)) = R := hnew
                    have HNW := Lib.hid hnew2
                    clear hnew hnew2
                    go_wp2_with (at_builtin; refine list_app_rd _ rfl _ _ 25 rfl w.heap.size 3 i0 _ 8 Tryz.underlying25 hi0 hz0 hz1 hz2 rfl _ n (nv ws) rfl (HO.out.alloc _) _ _ [.int .i64 (2 * (x : Int) + 1)] rfl (Rd.one rfl 3 (.int .i64 (2 * (x : Int) + 1))) (fun u hu => by rw [List.mem_singleton] at hu; rw [hu]; rfl) (by simp only [List.length_singleton]; unfold maxLen; omega) (by simp only [List.length_singleton]; omega) (Nat.le_trans hsz (by simp)) ?_; intro v5 w5 ho5 hg5)
                    have HB5 := Lib.hid (below_grown (bal HW.out (.cells #[.int .i64 (2 * (x : Int) + 1)] 3)) hg5 (HO.out.alloc _) (Nat.le_trans hsz (by simp)))
                    have hnx : nv ws ++ [.int .i64 (2 * (x : Int) + 1)] = nv (ws ++ [2 * x + 1]) := by simp [nv]
                    rw [List.length_singleton, hnx] at ho5
                    have HO5 := Lib.hid ho5; clear ho5 hg5 hnx HO HW
                    go_wp2
                    go_roundw
                    case rel => exact ⟨q + 1, n + 1, ws ++ [2 * x + 1], by omega, by omega, by go_num, HO5, HNW, HB5⟩
                    case measure => simp [intOf]; omega
                · have hgd : bits.getD q true = true := by rw [List.getD, List.getElem?_eq_none (by omega)]; rfl
                  rw [hgd] at hnew
                  clear hgd
                  have hnew2 : ∃ f, (bits.drop (q + 1)).length ≤ f ∧ (ws ++ [2 * x + 1]) ++ stuffF 6 f (bits.drop (q + 1)) = R := hnew
                  have HNW := Lib.hid hnew2
                  clear hnew hnew2
                  go_wp2_with (at_builtin; refine list_app_rd _ rfl _ _ 25 rfl w.heap.size 3 i0 _ 8 Tryz.underlying25 hi0 hz0 hz1 hz2 rfl _ n (nv ws) rfl (HO.out.alloc _) _ _ [.int .i64 (2 * (x : Int) + 1)] rfl (Rd.one rfl 3 (.int .i64 (2 * (x : Int) + 1))) (fun u hu => by rw [List.mem_singleton] at hu; rw [hu]; rfl) (by simp only [List.length_singleton]; unfold maxLen; omega) (by simp only [List.length_singleton]; omega) (Nat.le_trans hsz (by simp)) ?_; intro v5 w5 ho5 hg5)
                  have HB5 := Lib.hid (below_grown (bal HW.out (.cells #[.int .i64 (2 * (x : Int) + 1)] 3)) hg5 (HO.out.alloc _) (Nat.le_trans hsz (by simp)))
                  have hnx : nv ws ++ [.int .i64 (2 * (x : Int) + 1)] = nv (ws ++ [2 * x + 1]) := by simp [nv]
                  rw [List.length_singleton, hnx] at ho5
                  have HO5 := Lib.hid ho5; clear ho5 hg5 hnx HO HW
                  go_wp2
                  go_roundw
                  case rel => exact ⟨q + 1, n + 1, ws ++ [2 * x + 1], by omega, by omega, by go_num, HO5, HNW, HB5⟩
                  case measure => simp [intOf]; omega
      · have hR : ws = R := by
          obtain ⟨f, _, h9⟩ := HF.out
          rw [List.drop_of_length_le (by omega)] at h9
          cases f with
          | zero => rw [← h9]; unfold stuffF; simp
          | succ f => rw [← h9]; unfold stuffF; simp
        subst hR
        have HV := Lib.hid (RdT.of_own HO.out)
        go_wp2
        go_ret
        exact ⟨_, rfl, HV.out, HW.out⟩
  · -- 8 = W, 7 = W - 1, 127 = 2 ^ (W - 1) - 1, 254 = 2 ^ W - 2
    show Calls Tryz.prog 18 #[.slice A T ca, .int .i64 8] w _
    go_enter Tryz.func18, Tryz.ntmps18
    go_wp2_with fail
    go_loopw [5, 6] (fun ov iv wr => ∃ (i n : Nat) (ws : List Nat), n ≤ i ∧ i ≤ T + 8 ∧ iv = .int .i64 (i : Int) ∧ Hid (wr.ownsRow w.heap.size 3 1 ov n (nv ws)) ∧ Hid (∃ f, (bits.drop i).length ≤ f ∧ ws ++ stuffF 8 f (bits.drop i) = R) ∧ Hid (Below w.heap.size w wr)) (fun _ iv _ => T - (intOf iv).toNat)
    case atStart => exact ⟨0, 0, [], Nat.le_refl _, Nat.zero_le _, rfl, Lib.hid (own_nil _ _ _), Lib.hid ⟨_, Nat.le_refl _, by rw [List.drop_zero, List.nil_append]; exact HR.out⟩, Lib.hid (brf w)⟩
    case round =>
      obtain ⟨i, n, ws, hni, hiT, rfl, HO, HF, HW⟩ := hrel
      by_cases hlt : i < T
      · obtain ⟨ba, oa, rfl, hba, hca⟩ := HA.out (by omega)
        have HCA := Lib.hid hca; clear hca
        clear hiT
        go_wp2_with fail
        obtain ⟨wx, rfl⟩ : ∃ wx : World, wx = wr := ⟨_, rfl⟩
        go_loop [6, 7, 8] (fun iv xv mv => ∃ (m x : Nat), m ≤ 7 ∧ x < 2 ^ m ∧ iv = .int .i64 ((i + m : Nat) : Int) ∧ xv = .int .i64 (x : Int) ∧ mv = .int .i64 (m : Int) ∧ Hid (x = valL ((padT 8 (bits.drop i)).take m))) (fun _ _ mv => 7 - (intOf mv).toNat)
        case atStart => exact ⟨0, 0, Nat.zero_le _, by decide, rfl, rfl, rfl, Lib.hid (by simp [valL])⟩
        case round =>
          obtain ⟨m, x, hm, hx, rfl, rfl, rfl, HX⟩ := hrel
          have hp : 2 ^ m ≤ 2 ^ 7 := Nat.pow_le_pow_right (by decide) hm
          have hp2 : 2 ^ (m + 1) = 2 * 2 ^ m := by rw [Nat.pow_succ]; omega
          by_cases hml : m < 7
          · have hnx := val_next 8 bits i m (by omega)
            rw [← HX.out] at hnx
            obtain ⟨q, hq⟩ : ∃ q, q = i + m := ⟨_, rfl⟩
            rw [← hq] at hnx ⊢
            have HQ := Lib.hid hq
            have hqi : i + (m + 1) = q + 1 := by omega
            have HQI := Lib.hid hqi
            have HP2 := Lib.hid hp2
            clear hq hqi hp2
            have hqb : q < 100000 := by have := HQ.out; omega
            by_cases hqT : q < T
            · have hql : q < bits.length := by omega
              have hgd : bits.getD q true = bits[q] := by rw [List.getD, List.getElem?_eq_getElem hql]; rfl
              have cB := cell_up (HCA.out q _ (bv_at bits q hql)) HW.out
              rw [hgd] at hnx
              generalize bits[q] = bb at *
              have HNX := Lib.hid hnx
              clear hgd hnx
              cases bb
              · go_wp2_with fail
                go_round
                case rel => exact ⟨m + 1, 2 * x, by omega, by have := HP2.out; omega, by rw [HQI.out]; go_num, by go_num, by go_num, Lib.hid (by rw [HNX.out]; rfl)⟩
                case measure => simp [intOf]; omega
              · go_wp2_with fail
                go_round
                case rel => exact ⟨m + 1, 2 * x + 1, by omega, by have := HP2.out; omega, by rw [HQI.out]; go_num, by go_num, by go_num, Lib.hid (by rw [HNX.out]; rfl)⟩
                case measure => simp [intOf]; omega
            · have hgd : bits.getD q true = true := by rw [List.getD, List.getElem?_eq_none (by omega)]; rfl
              rw [hgd] at hnx
              have HNX := Lib.hid hnx
              clear hgd hnx
              go_wp2_with fail
              go_round
              case rel => exact ⟨m + 1, 2 * x + 1, by omega, by have := HP2.out; omega, by rw [HQI.out]; go_num, by go_num, by go_num, Lib.hid (by rw [HNX.out]; rfl)⟩
              case measure => simp [intOf]; omega
          · obtain rfl : m = 7 := by omega
            clear hp hp2 hm hml
            have hil : i < bits.length := by omega
            have hsz := HW.out.size
            obtain ⟨q, hq⟩ : ∃ q, q = i + 7 := ⟨_, rfl⟩
            have hqb : q ≤ T + 7 := by omega
            have hnq : n + 1 ≤ q := by omega
            have hiq : i < q := by omega
            rw [← hq]
            have HQ := Lib.hid hq
            clear hq
            by_cases hx0 : x = 0
            · subst hx0
              have hnew := stuff_one 8 bits R ws i hil HF.out 1 7 (by decide) (.inl ⟨HX.out.symm, rfl, rfl⟩)
              rw [← HQ.out] at hnew
              have HNW := Lib.hid hnew
              clear hnew HX HF
              go_wp2_with (at_builtin; refine list_app_rd _ rfl _ _ 25 rfl w.heap.size 3 i0 _ 8 Tryz.underlying25 hi0 hz0 hz1 hz2 rfl _ n (nv ws) rfl (HO.out.alloc _) _ _ [.int .i64 (1)] rfl (Rd.one rfl 3 (.int .i64 (1))) (fun u hu => by rw [List.mem_singleton] at hu; rw [hu]; rfl) (by simp only [List.length_singleton]; unfold maxLen; omega) (by simp only [List.length_singleton]; omega) (Nat.le_trans hsz (by simp)) ?_; intro v5 w5 ho5 hg5)
              have HB5 := Lib.hid (below_grown (bal HW.out (.cells #[.int .i64 (1)] 3)) hg5 (HO.out.alloc _) (Nat.le_trans hsz (by simp)))
              have hnx : nv ws ++ [.int .i64 (1)] = nv (ws ++ [1]) := by simp [nv]
              rw [List.length_singleton, hnx] at ho5
              have HO5 := Lib.hid ho5; clear ho5 hg5 hnx HO HW
              go_wp2
              go_roundw
              case rel => exact ⟨q, n + 1, ws ++ [1], by omega, by omega, rfl, HO5, HNW, HB5⟩
              case measure => simp [intOf]; omega
            · by_cases hx1 : x = 127
              · subst hx1
                have hnew := stuff_one 8 bits R ws i hil HF.out 254 7 (by decide) (.inr (.inl ⟨by rw [← HX.out]; decide, HX.out.symm, rfl, rfl⟩))
                rw [← HQ.out] at hnew
                have HNW := Lib.hid hnew
                clear hnew HX HF
                go_wp2_with (at_builtin; refine list_app_rd _ rfl _ _ 25 rfl w.heap.size 3 i0 _ 8 Tryz.underlying25 hi0 hz0 hz1 hz2 rfl _ n (nv ws) rfl (HO.out.alloc _) _ _ [.int .i64 (254)] rfl (Rd.one rfl 3 (.int .i64 (254))) (fun u hu => by rw [List.mem_singleton] at hu; rw [hu]; rfl) (by simp only [List.length_singleton]; unfold maxLen; omega) (by simp only [List.length_singleton]; omega) (Nat.le_trans hsz (by simp)) ?_; intro v5 w5 ho5 hg5)
                have HB5 := Lib.hid (below_grown (bal HW.out (.cells #[.int .i64 (254)] 3)) hg5 (HO.out.alloc _) (Nat.le_trans hsz (by simp)))
                have hnx : nv ws ++ [.int .i64 (254)] = nv (ws ++ [254]) := by simp [nv]
                rw [List.length_singleton, hnx] at ho5
                have HO5 := Lib.hid ho5; clear ho5 hg5 hnx HO HW
                go_wp2
                go_roundw
                case rel => exact ⟨q, n + 1, ws ++ [254], by omega, by omega, rfl, HO5, HNW, HB5⟩
                case measure => simp [intOf]; omega
              · have hnx := val_next 8 bits i 7 (by decide)
                rw [← HX.out, ← HQ.out] at hnx
                have hne0 : valL ((padT 8 (bits.drop i)).take (8 - 1)) ≠ 0 := by rw [show 8 - 1 = 7 from rfl, ← HX.out]; exact hx0
                have hne1 : valL ((padT 8 (bits.drop i)).take (8 - 1)) ≠ 2 ^ (8 - 1) - 1 := by rw [show 8 - 1 = 7 from rfl, ← HX.out]; exact hx1
                have hnew := stuff_one 8 bits R ws i hil HF.out _ 8 (by decide) (.inr (.inr ⟨hne0, hne1, rfl, rfl⟩))
                rw [show (8 : Nat) = 7 + 1 from rfl] at hnew
                rw [show (padT (7 + 1) (bits.drop i)) = padT 8 (bits.drop i) from rfl, hnx, show i + (7 + 1) = q + 1 by have := HQ.out; omega, show (7 + 1 : Nat) = 8 from rfl] at hnew
                clear hnx hne0 hne1 HX HF
                have hxi0 : ¬ ((x : Int) = 0) := by omega
                have hxi1 : ¬ ((x : Int) = 127) := by omega
                by_cases hqT : q < T
                · have hql : q < bits.length := by omega
                  have hgd : bits.getD q true = bits[q] := by rw [List.getD, List.getElem?_eq_getElem hql]; rfl
                  have cB := cell_up (HCA.out q _ (bv_at bits q hql)) HW.out
                  rw [hgd] at hnew
                  generalize bits[q] = bb at *
                  clear hgd
                  cases bb
                  · have hnew2 : ∃ f, (bits.drop (q + 1)).length ≤ f ∧ (ws ++ [2 * x]) ++ stuffF 8 f (bits.drop (q + 1)) = R := hnew
                    have HNW := Lib.hid hnew2
                    clear hnew hnew2
                    go_wp2_with (at_builtin; refine list_app_rd _ rfl _ _ 25 rfl w.heap.size 3 i0 _ 8 Tryz.underlying25 hi0 hz0 hz1 hz2 rfl _ n (nv ws) rfl (HO.out.alloc _) _ _ [.int .i64 (2 * (x : Int))] rfl (Rd.one rfl 3 (.int .i64 (2 * (x : Int)))) (fun u hu => by rw [List.mem_singleton] at hu; rw [hu]; rfl) (by simp only [List.length_singleton]; unfold maxLen; omega) (by simp only [List.length_singleton]; omega) (Nat.le_trans hsz (by simp)) ?_; intro v5 w5 ho5 hg5)
                    have HB5 := Lib.hid (below_grown (bal HW.out (.cells #[.int .i64 (2 * (x : Int))] 3)) hg5 (HO.out.alloc _) (Nat.le_trans hsz (by simp)))
                    have hnx : nv ws ++ [.int .i64 (2 * (x : Int))] = nv (ws ++ [2 * x]) := by simp [nv]
                    rw [List.length_singleton, hnx] at ho5
                    have HO5 := Lib.hid ho5; clear ho5 hg5 hnx HO HW
                    go_wp2
                    go_roundw
                    case rel => exact ⟨q + 1, n + 1, ws ++ [2 * x], by omega, by omega, by go_num, HO5, HNW, HB5⟩
                    case measure => simp [intOf]; omega
                  · have hnew2 : ∃ f, (bits.drop (q + 1)).length ≤ f ∧ (ws ++ [2 * x + 1]) ++ stuffF 8 f (bits.drop (q + 1)) = R := hnew
                    have HNW := Lib.hid hnew2
                    clear hnew hnew2
                    go_wp2_with (at_builtin; refine list_app_rd _ rfl _ _ 25 rfl w.heap.size 3 i0 _ 8 Tryz.underlying25 hi0 hz0 hz1 hz2 rfl _ n (nv ws) rfl (HO.out.alloc _) _ _ [.int .i64 (2 * (x : Int) + 1)] rfl (Rd.one rfl 3 (.int .i64 (2 * (x : Int) + 1))) (fun u hu => by rw [List.mem_singleton] at hu; rw [hu]; rfl) (by simp only [List.length_singleton]; unfold maxLen; omega) (by simp only [List.length_singleton]; omega) (Nat.le_trans hsz (by simp)) ?_; intro v5 w5 ho5 hg5)
                    have HB5 := Lib.hid (below_grown (bal HW.out (.cells #[.int .i64 (2 * (x : Int) + 1)] 3)) hg5 (HO.out.alloc _) (Nat.le_trans hsz (by simp)))
                    have hnx : nv ws ++ [.int .i64 (2 * (x : Int) + 1)] = nv (ws ++ [2 * x + 1]) := by simp [nv]
                    rw [List.length_singleton, hnx] at ho5
                    have HO5 := Lib.hid ho5; clear ho5 hg5 hnx HO HW
                    go_wp2
                    go_roundw
                    case rel => exact ⟨q + 1, n + 1, ws ++ [2 * x + 1], by omega, by omega, by go_num, HO5, HNW, HB5⟩
                    case measure => simp [intOf]; omega
                · have hgd : bits.getD q true = true := by rw [List.getD, List.getElem?_eq_none (by omega)]; rfl
                  rw [hgd] at hnew
                  clear hgd
                  have hnew2 : ∃ f, (bits.drop (q + 1)).length ≤ f ∧ (ws ++ [2 * x + 1]) ++ stuffF 8 f (bits.drop (q + 1)) = R := hnew
                  have HNW := Lib.hid hnew2
                  clear hnew hnew2
                  go_wp2_with (at_builtin; refine list_app_rd _ rfl _ _ 25 rfl w.heap.size 3 i0 _ 8 Tryz.underlying25 hi0 hz0 hz1 hz2 rfl _ n (nv ws) rfl (HO.out.alloc _) _ _ [.int .i64 (2 * (x : Int) + 1)] rfl (Rd.one rfl 3 (.int .i64 (2 * (x : Int) + 1))) (fun u hu => by rw [List.mem_singleton] at hu; rw [hu]; rfl) (by simp only [List.length_singleton]; unfold maxLen; omega) (by simp only [List.length_singleton]; omega) (Nat.le_trans hsz (by simp)) ?_; intro v5 w5 ho5 hg5)
                  have HB5 := Lib.hid (below_grown (bal HW.out (.cells #[.int .i64 (2 * (x : Int) + 1)] 3)) hg5 (HO.out.alloc _) (Nat.le_trans hsz (by simp)))
                  have hnx : nv ws ++ [.int .i64 (2 * (x : Int) + 1)] = nv (ws ++ [2 * x + 1]) := by simp [nv]
                  rw [List.length_singleton, hnx] at ho5
                  have HO5 := Lib.hid ho5; clear ho5 hg5 hnx HO HW
                  go_wp2
                  go_roundw
                  case rel => exact ⟨q + 1, n + 1, ws ++ [2 * x + 1], by omega, by omega, by go_num, HO5, HNW, HB5⟩
                  case measure => simp [intOf]; omega
      · have hR : ws = R := by
          obtain ⟨f, _, h9⟩ := HF.out
          rw [List.drop_of_length_le (by omega)] at h9
          cases f with
          | zero => rw [← h9]; unfold stuffF; simp
          | succ f => rw [← h9]; unfold stuffF; simp
        subst hR
        have HV := Lib.hid (RdT.of_own HO.out)
        go_wp2
        go_ret
        exact ⟨_, rfl, HV.out, HW.out⟩
  · -- 10 = W, 9 = W - 1, 511 = 2 ^ (W - 1) - 1, 1022 = 2 ^ W - 2
    show Calls Tryz.prog 18 #[.slice A T ca, .int .i64 10] w _
    go_enter Tryz.func18, Tryz.ntmps18
    go_wp2_with fail
    go_loopw [5, 6] (fun ov iv wr => ∃ (i n : Nat) (ws : List Nat), n ≤ i ∧ i ≤ T + 10 ∧ iv = .int .i64 (i : Int) ∧ Hid (wr.ownsRow w.heap.size 3 1 ov n (nv ws)) ∧ Hid (∃ f, (bits.drop i).length ≤ f ∧ ws ++ stuffF 10 f (bits.drop i) = R) ∧ Hid (Below w.heap.size w wr)) (fun _ iv _ => T - (intOf iv).toNat)
    case atStart => exact ⟨0, 0, [], Nat.le_refl _, Nat.zero_le _, rfl, Lib.hid (own_nil _ _ _), Lib.hid ⟨_, Nat.le_refl _, by rw [List.drop_zero, List.nil_append]; exact HR.out⟩, Lib.hid (brf w)⟩
    case round =>
      obtain ⟨i, n, ws, hni, hiT, rfl, HO, HF, HW⟩ := hrel
      by_cases hlt : i < T
      · obtain ⟨ba, oa, rfl, hba, hca⟩ := HA.out (by omega)
        have HCA := Lib.hid hca; clear hca
        clear hiT
        go_wp2_with fail
        obtain ⟨wx, rfl⟩ : ∃ wx : World, wx = wr := ⟨_, rfl⟩
        go_loop [6, 7, 8] (fun iv xv mv => ∃ (m x : Nat), m ≤ 9 ∧ x < 2 ^ m ∧ iv = .int .i64 ((i + m : Nat) : Int) ∧ xv = .int .i64 (x : Int) ∧ mv = .int .i64 (m : Int) ∧ Hid (x = valL ((padT 10 (bits.drop i)).take m))) (fun _ _ mv => 9 - (intOf mv).toNat)
        case atStart => exact ⟨0, 0, Nat.zero_le _, by decide, rfl, rfl, rfl, Lib.hid (by simp [valL])⟩
        case round =>
          obtain ⟨m, x, hm, hx, rfl, rfl, rfl, HX⟩ := hrel
          have hp : 2 ^ m ≤ 2 ^ 9 := Nat.pow_le_pow_right (by decide) hm
          have hp2 : 2 ^ (m + 1) = 2 * 2 ^ m := by rw [Nat.pow_succ]; omega
          by_cases hml : m < 9
          · have hnx := val_next 10 bits i m (by omega)
            rw [← HX.out] at hnx
            obtain ⟨q, hq⟩ : ∃ q, q = i + m := ⟨_, rfl⟩
            rw [← hq] at hnx ⊢
            have HQ := Lib.hid hq
            have hqi : i + (m + 1) = q + 1 := by omega
            have HQI := Lib.hid hqi
            have HP2 := Lib.hid hp2
            clear hq hqi hp2
            have hqb : q < 100000 := by have := HQ.out; omega
            by_cases hqT : q < T
            · have hql : q < bits.length := by omega
              have hgd : bits.getD q true = bits[q] := by rw [List.getD, List.getElem?_eq_getElem hql]; rfl
              have cB := cell_up (HCA.out q _ (bv_at bits q hql)) HW.out
              rw [hgd] at hnx
              generalize bits[q] = bb at *
              have HNX := Lib.hid hnx
              clear hgd hnx
              cases bb
              · go_wp2_with fail
                go_round
                case rel => exact ⟨m + 1, 2 * x, by omega, by have := HP2.out; omega, by rw [HQI.out]; go_num, by go_num, by go_num, Lib.hid (by rw [HNX.out]; rfl)⟩
                case measure => simp [intOf]; omega
              · go_wp2_with fail
                go_round
                case rel => exact ⟨m + 1, 2 * x + 1, by omega, by have := HP2.out; omega, by rw [HQI.out]; go_num, by go_num, by go_num, Lib.hid (by rw [HNX.out]; rfl)⟩
                case measure => simp [intOf]; omega
            · have hgd : bits.getD q true = true := by rw [List.getD, List.getElem?_eq_none (by omega)]; rfl
              rw [hgd] at hnx
              have HNX := Lib.hid hnx
              clear hgd hnx
              go_wp2_with fail
              go_round
              case rel => exact ⟨m + 1, 2 * x + 1, by omega, by have := HP2.out; omega, by rw [HQI.out]; go_num, by go_num, by go_num, Lib.hid (by rw [HNX.out]; rfl)⟩
              case measure => simp [intOf]; omega
          · obtain rfl : m = 9 := by omega
            clear hp hp2 hm hml
            have hil : i < bits.length := by omega
            have hsz := HW.out.size
            obtain ⟨q, hq⟩ : ∃ q, q = i + 9 := ⟨_, rfl⟩
            have hqb : q ≤ T + 9 := by omega
            have hnq : n + 1 ≤ q := by omega
            have hiq : i < q := by omega
            rw [← hq]
            have HQ := Lib.hid hq
            clear hq
            by_cases hx0 : x = 0
            · subst hx0
              have hnew := stuff_one 10 bits R ws i hil HF.out 1 9 (by decide) (.inl ⟨HX.out.symm, rfl, rfl⟩)
              rw [← HQ.out] at hnew
              have HNW := Lib.hid hnew
              clear hnew HX HF
              go_wp2_with (at_builtin; refine list_app_rd _ rfl _ _ 25 rfl w.heap.size 3 i0 _ 8 Tryz.underlying25 hi0 hz0 hz1 hz2 rfl _ n (nv ws) rfl (HO.out.alloc _) _ _ [.int .i64 (1)] rfl (Rd.one rfl 3 (.int .i64 (1))) (fun u hu => by rw [List.mem_singleton] at hu; rw [hu]; rfl) (by simp only [List.length_singleton]; unfold maxLen; omega) (by simp only [List.length_singleton]; omega) (Nat.le_trans hsz (by simp)) ?_; intro v5 w5 ho5 hg5)
              have HB5 := Lib.hid (below_grown (bal HW.out (.cells #[.int .i64 (1)] 3)) hg5 (HO.out.alloc _) (Nat.le_trans hsz (by simp)))
              have hnx : nv ws ++ [.int .i64 (1)] = nv (ws ++ [1]) := by simp [nv]
              rw [List.length_singleton, hnx] at ho5
              have HO5 := Lib.hid ho5; clear ho5 hg5 hnx HO HW
              go_wp2
              go_roundw
              case rel => exact ⟨q, n + 1, ws ++ [1], by omega, by omega, rfl, HO5, HNW, HB5⟩
              case measure => simp [intOf]; omega
            · by_cases hx1 : x = 511
              · subst hx1
                have hnew := stuff_one 10 bits R ws i hil HF.out 1022 9 (by decide) (.inr (.inl ⟨by rw [← HX.out]; decide, HX.out.symm, rfl, rfl⟩))
                rw [← HQ.out] at hnew
                have HNW := Lib.hid hnew
                clear hnew HX HF
                go_wp2_with (at_builtin; refine list_app_rd _ rfl _ _ 25 rfl w.heap.size 3 i0 _ 8 Tryz.underlying25 hi0 hz0 hz1 hz2 rfl _ n (nv ws) rfl (HO.out.alloc _) _ _ [.int .i64 (1022)] rfl (Rd.one rfl 3 (.int .i64 (1022))) (fun u hu => by rw [List.mem_singleton] at hu; rw [hu]; rfl) (by simp only [List.length_singleton]; unfold maxLen; omega) (by simp only [List.length_singleton]; omega) (Nat.le_trans hsz (by simp)) ?_; intro v5 w5 ho5 hg5)
                have HB5 := Lib.hid (below_grown (bal HW.out (.cells #[.int .i64 (1022)] 3)) hg5 (HO.out.alloc _) (Nat.le_trans hsz (by simp)))
                have hnx : nv ws ++ [.int .i64 (1022)] = nv (ws ++ [1022]) := by simp [nv]
                rw [List.length_singleton, hnx] at ho5
                have HO5 := Lib.hid ho5; clear ho5 hg5 hnx HO HW
                go_wp2
                go_roundw
                case rel => exact ⟨q, n + 1, ws ++ [1022], by omega, by omega, rfl, HO5, HNW, HB5⟩
                case measure => simp [intOf]; omega
              · have hnx := val_next 10 bits i 9 (by decide)
                rw [← HX.out, ← HQ.out] at hnx
                have hne0 : valL ((padT 10 (bits.drop i)).take (10 - 1)) ≠ 0 := by rw [show 10 - 1 = 9 from rfl, ← HX.out]; exact hx0
                have hne1 : valL ((padT 10 (bits.drop i)).take (10 - 1)) ≠ 2 ^ (10 - 1) - 1 := by rw [show 10 - 1 = 9 from rfl, ← HX.out]; exact hx1
                have hnew := stuff_one 10 bits R ws i hil HF.out _ 10 (by decide) (.inr (.inr ⟨hne0, hne1, rfl, rfl⟩))
                rw [show (10 : Nat) = 9 + 1 from rfl] at hnew
                rw [show (padT (9 + 1) (bits.drop i)) = padT 10 (bits.drop i) from rfl, hnx, show i + (9 + 1) = q + 1 by have := HQ.out; omega, show (9 + 1 : Nat) = 10 from rfl] at hnew
                clear hnx hne0 hne1 HX HF
                have hxi0 : ¬ ((x : Int) = 0) := by omega
                have hxi1 : ¬ ((x : Int) = 511) := by omega
                by_cases hqT : q < T
                · have hql : q < bits.length := by omega
                  have hgd : bits.getD q true = bits[q] := by rw [List.getD, List.getElem?_eq_getElem hql]; rfl
                  have cB := cell_up (HCA.out q _ (bv_at bits q hql)) HW.out
                  rw [hgd] at hnew
                  generalize bits[q] = bb at *
                  clear hgd
                  cases bb
                  · have hnew2 : ∃ f, (bits.drop (q + 1)).length ≤ f ∧ (ws ++ [2 * x]) ++ stuffF 10 f (bits.drop (q + 1)) = R := hnew
                    have HNW := Lib.hid hnew2
                    clear hnew hnew2
                    go_wp2_with (at_builtin; refine list_app_rd _ rfl _ _ 25 rfl w.heap.size 3 i0 _ 8 Tryz.underlying25 hi0 hz0 hz1 hz2 rfl _ n (nv ws) rfl (HO.out.alloc _) _ _ [.int .i64 (2 * (x : Int))] rfl (Rd.one rfl 3 (.int .i64 (2 * (x : Int)))) (fun u hu => by rw [List.mem_singleton] at hu; rw [hu]; rfl) (by simp only [List.length_singleton]; unfold maxLen; omega) (by simp only [List.length_singleton]; omega) (Nat.le_trans hsz (by simp)) ?_; intro v5 w5 ho5 hg5)
                    have HB5 := Lib.hid (below_grown (bal HW.out (.cells #[.int .i64 (2 * (x : Int))] 3)) hg5 (HO.out.alloc _) (Nat.le_trans hsz (by simp)))
                    have hnx : nv ws ++ [.int .i64 (2 * (x : Int))] = nv (ws ++ [2 * x]) := by simp [nv]
                    rw [List.length_singleton, hnx] at ho5
                    have HO5 := Lib.hid ho5; clear ho5 hg5 hnx HO HW
                    go_wp2
                    go_roundw
                    case rel => exact ⟨q + 1, n + 1, ws ++ [2 * x], by omega, by omega, by go_num, HO5, HNW, HB5⟩
                    case measure => simp [intOf]; omega
                  · have hnew2 : ∃ f, (bits.drop (q + 1)).length ≤ f ∧ (ws ++ [2 * x + 1]) ++ stuffF 10 f (bits.drop (q + 1)) = R := hnew
                    have HNW := Lib.hid hnew2
                    clear hnew hnew2
                    go_wp2_with (at_builtin; refine list_app_rd _ rfl _ _ 25 rfl w.heap.size 3 i0 _ 8 Tryz.underlying25 hi0 hz0 hz1 hz2 rfl _ n (nv ws) rfl (HO.out.alloc _) _ _ [.int .i64 (2 * (x : Int) + 1)] rfl (Rd.one rfl 3 (.int .i64 (2 * (x : Int) + 1))) (fun u hu => by rw [List.mem_singleton] at hu; rw [hu]; rfl) (by simp only [List.length_singleton]; unfold maxLen; omega) (by simp only [List.length_singleton]; omega) (Nat.le_trans hsz (by simp)) ?_; intro v5 w5 ho5 hg5)
                    have HB5 := Lib.hid (below_grown (bal HW.out (.cells #[.int .i64 (2 * (x : Int) + 1)] 3)) hg5 (HO.out.alloc _) (Nat.le_trans hsz (by simp)))
                    have hnx : nv ws ++ [.int .i64 (2 * (x : Int) + 1)] = nv (ws ++ [2 * x + 1]) := by simp [nv]
                    rw [List.length_singleton, hnx] at ho5
                    have HO5 := Lib.hid ho5; clear ho5 hg5 hnx HO HW
                    go_wp2
                    go_roundw
                    case rel => exact ⟨q + 1, n + 1, ws ++ [2 * x + 1], by omega, by omega, by go_num, HO5, HNW, HB5⟩
                    case measure => simp [intOf]; omega
                · have hgd : bits.getD q true = true := by rw [List.getD, List.getElem?_eq_none (by omega)]; rfl
                  rw [hgd] at hnew
                  clear hgd
                  have hnew2 : ∃ f, (bits.drop (q + 1)).length ≤ f ∧ (ws ++ [2 * x + 1]) ++ stuffF 10 f (bits.drop (q + 1)) = R := hnew
                  have HNW := Lib.hid hnew2
                  clear hnew hnew2
                  go_wp2_with (at_builtin; refine list_app_rd _ rfl _ _ 25 rfl w.heap.size 3 i0 _ 8 Tryz.underlying25 hi0 hz0 hz1 hz2 rfl _ n (nv ws) rfl (HO.out.alloc _) _ _ [.int .i64 (2 * (x : Int) + 1)] rfl (Rd.one rfl 3 (.int .i64 (2 * (x : Int) + 1))) (fun u hu => by rw [List.mem_singleton] at hu; rw [hu]; rfl) (by simp only [List.length_singleton]; unfold maxLen; omega) (by simp only [List.length_singleton]; omega) (Nat.le_trans hsz (by simp)) ?_; intro v5 w5 ho5 hg5)
                  have HB5 := Lib.hid (below_grown (bal HW.out (.cells #[.int .i64 (2 * (x : Int) + 1)] 3)) hg5 (HO.out.alloc _) (Nat.le_trans hsz (by simp)))
                  have hnx : nv ws ++ [.int .i64 (2 * (x : Int) + 1)] = nv (ws ++ [2 * x + 1]) := by simp [nv]
                  rw [List.length_singleton, hnx] at ho5
                  have HO5 := Lib.hid ho5; clear ho5 hg5 hnx HO HW
                  go_wp2
                  go_roundw
                  case rel => exact ⟨q + 1, n + 1, ws ++ [2 * x + 1], by omega, by omega, by go_num, HO5, HNW, HB5⟩
                  case measure => simp [intOf]; omega
      · have hR : ws = R := by
          obtain ⟨f, _, h9⟩ := HF.out
          rw [List.drop_of_length_le (by omega)] at h9
          cases f with
          | zero => rw [← h9]; unfold stuffF; simp
          | succ f => rw [← h9]; unfold stuffF; simp
        subst hR
        have HV := Lib.hid (RdT.of_own HO.out)
        go_wp2
        go_ret
        exact ⟨_, rfl, HV.out, HW.out⟩
  · -- 12 = W, 11 = W - 1, 2047 = 2 ^ (W - 1) - 1, 4094 = 2 ^ W - 2
    show Calls Tryz.prog 18 #[.slice A T ca, .int .i64 12] w _
    go_enter Tryz.func18, Tryz.ntmps18
    go_wp2_with fail
    go_loopw [5, 6] (fun ov iv wr => ∃ (i n : Nat) (ws : List Nat), n ≤ i ∧ i ≤ T + 12 ∧ iv = .int .i64 (i : Int) ∧ Hid (wr.ownsRow w.heap.size 3 1 ov n (nv ws)) ∧ Hid (∃ f, (bits.drop i).length ≤ f ∧ ws ++ stuffF 12 f (bits.drop i) = R) ∧ Hid (Below w.heap.size w wr)) (fun _ iv _ => T - (intOf iv).toNat)
    case atStart => exact ⟨0, 0, [], Nat.le_refl _, Nat.zero_le _, rfl, Lib.hid (own_nil _ _ _), Lib.hid ⟨_, Nat.le_refl _, by rw [List.drop_zero, List.nil_append]; exact HR.out⟩, Lib.hid (brf w)⟩
    case round =>
      obtain ⟨i, n, ws, hni, hiT, rfl, HO, HF, HW⟩ := hrel
      by_cases hlt : i < T
      · obtain ⟨ba, oa, rfl, hba, hca⟩ := HA.out (by omega)
        have HCA := Lib.hid hca; clear hca
        clear hiT
        go_wp2_with fail
        obtain ⟨wx, rfl⟩ : ∃ wx : World, wx = wr := ⟨_, rfl⟩
        go_loop [6, 7, 8] (fun iv xv mv => ∃ (m x : Nat), m ≤ 11 ∧ x < 2 ^ m ∧ iv = .int .i64 ((i + m : Nat) : Int) ∧ xv = .int .i64 (x : Int) ∧ mv = .int .i64 (m : Int) ∧ Hid (x = valL ((padT 12 (bits.drop i)).take m))) (fun _ _ mv => 11 - (intOf mv).toNat)
        case atStart => exact ⟨0, 0, Nat.zero_le _, by decide, rfl, rfl, rfl, Lib.hid (by simp [valL])⟩
        case round =>
          obtain ⟨m, x, hm, hx, rfl, rfl, rfl, HX⟩ := hrel
          have hp : 2 ^ m ≤ 2 ^ 11 := Nat.pow_le_pow_right (by decide) hm
          have hp2 : 2 ^ (m + 1) = 2 * 2 ^ m := by rw [Nat.pow_succ]; omega
          by_cases hml : m < 11
          · have hnx := val_next 12 bits i m (by omega)
            rw [← HX.out] at hnx
            obtain ⟨q, hq⟩ : ∃ q, q = i + m := ⟨_, rfl⟩
            rw [← hq] at hnx ⊢
            have HQ := Lib.hid hq
            have hqi : i + (m + 1) = q + 1 := by omega
            have HQI := Lib.hid hqi
            have HP2 := Lib.hid hp2
            clear hq hqi hp2
            have hqb : q < 100000 := by have := HQ.out; omega
            by_cases hqT : q < T
            · have hql : q < bits.length := by omega
              have hgd : bits.getD q true = bits[q] := by rw [List.getD, List.getElem?_eq_getElem hql]; rfl
              have cB := cell_up (HCA.out q _ (bv_at bits q hql)) HW.out
              rw [hgd] at hnx
              generalize bits[q] = bb at *
              have HNX := Lib.hid hnx
              clear hgd hnx
              cases bb
              · go_wp2_with fail
                go_round
                case rel => exact ⟨m + 1, 2 * x, by omega, by have := HP2.out; omega, by rw [HQI.out]; go_num, by go_num, by go_num, Lib.hid (by rw [HNX.out]; rfl)⟩
                case measure => simp [intOf]; omega
              · go_wp2_with fail
                go_round
                case rel => exact ⟨m + 1, 2 * x + 1, by omega, by have := HP2.out; omega, by rw [HQI.out]; go_num, by go_num, by go_num, Lib.hid (by rw [HNX.out]; rfl)⟩
                case measure => simp [intOf]; omega
            · have hgd : bits.getD q true = true := by rw [List.getD, List.getElem?_eq_none (by omega)]; rfl
              rw [hgd] at hnx
              have HNX := Lib.hid hnx
              clear hgd hnx
              go_wp2_with fail
              go_round
              case rel => exact ⟨m + 1, 2 * x + 1, by omega, by have := HP2.out; omega, by rw [HQI.out]; go_num, by go_num, by go_num, Lib.hid (by rw [HNX.out]; rfl)⟩
              case measure => simp [intOf]; omega
          · obtain rfl : m = 11 := by omega
            clear hp hp2 hm hml
            have hil : i < bits.length := by omega
            have hsz := HW.out.size
            obtain ⟨q, hq⟩ : ∃ q, q = i + 11 := ⟨_, rfl⟩
            have hqb : q ≤ T + 11 := by omega
            have hnq : n + 1 ≤ q := by omega
            have hiq : i < q := by omega
            rw [← hq]
            have HQ := Lib.hid hq
            clear hq
            by_cases hx0 : x = 0
            · subst hx0
              have hnew := stuff_one 12 bits R ws i hil HF.out 1 11 (by decide) (.inl ⟨HX.out.symm, rfl, rfl⟩)
              rw [← HQ.out] at hnew
              have HNW := Lib.hid hnew
              clear hnew HX HF
              go_wp2_with (at_builtin; refine list_app_rd _ rfl _ _ 25 rfl w.heap.size 3 i0 _ 8 Tryz.underlying25 hi0 hz0 hz1 hz2 rfl _ n (nv ws) rfl (HO.out.alloc _) _ _ [.int .i64 (1)] rfl (Rd.one rfl 3 (.int .i64 (1))) (fun u hu => by rw [List.mem_singleton] at hu; rw [hu]; rfl) (by simp only [List.length_singleton]; unfold maxLen; omega) (by simp only [List.length_singleton]; omega) (Nat.le_trans hsz (by simp)) ?_; intro v5 w5 ho5 hg5)
              have HB5 := Lib.hid (below_grown (bal HW.out (.cells #[.int .i64 (1)] 3)) hg5 (HO.out.alloc _) (Nat.le_trans hsz (by simp)))
              have hnx : nv ws ++ [.int .i64 (1)] = nv (ws ++ [1]) := by simp [nv]
              rw [List.length_singleton, hnx] at ho5
              have HO5 := Lib.hid ho5; clear ho5 hg5 hnx HO HW
              go_wp2
              go_roundw
              case rel => exact ⟨q, n + 1, ws ++ [1], by omega, by omega, rfl, HO5, HNW, HB5⟩
              case measure => simp [intOf]; omega
            · by_cases hx1 : x = 2047
              · subst hx1
                have hnew := stuff_one 12 bits R ws i hil HF.out 4094 11 (by decide) (.inr (.inl ⟨by rw [← HX.out]; decide, HX.out.symm, rfl, rfl⟩))
                rw [← HQ.out] at hnew
                have HNW := Lib.hid hnew
                clear hnew HX HF
                go_wp2_with (at_builtin; refine list_app_rd _ rfl _ _ 25 rfl w.heap.size 3 i0 _ 8 Tryz.underlying25 hi0 hz0 hz1 hz2 rfl _ n (nv ws) rfl (HO.out.alloc _) _ _ [.int .i64 (4094)] rfl (Rd.one rfl 3 (.int .i64 (4094))) (fun u hu => by rw [List.mem_singleton] at hu; rw [hu]; rfl) (by simp only [List.length_singleton]; unfold maxLen; omega) (by simp only [List.length_singleton]; omega) (Nat.le_trans hsz (by simp)) ?_; intro v5 w5 ho5 hg5)
                have HB5 := Lib.hid (below_grown (bal HW.out (.cells #[.int .i64 (4094)] 3)) hg5 (HO.out.alloc _) (Nat.le_trans hsz (by simp)))
                have hnx : nv ws ++ [.int .i64 (4094)] = nv (ws ++ [4094]) := by simp [nv]
                rw [List.length_singleton, hnx] at ho5
                have HO5 := Lib.hid ho5; clear ho5 hg5 hnx HO HW
                go_wp2
                go_roundw
                case rel => exact ⟨q, n + 1, ws ++ [4094], by omega, by omega, rfl, HO5, HNW, HB5⟩
                case measure => simp [intOf]; omega
              · have hnx := val_next 12 bits i 11 (by decide)
                rw [← HX.out, ← HQ.out] at hnx
                have hne0 : valL ((padT 12 (bits.drop i)).take (12 - 1)) ≠ 0 := by rw [show 12 - 1 = 11 from rfl, ← HX.out]; exact hx0
                have hne1 : valL ((padT 12 (bits.drop i)).take (12 - 1)) ≠ 2 ^ (12 - 1) - 1 := by rw [show 12 - 1 = 11 from rfl, ← HX.out]; exact hx1
                have hnew := stuff_one 12 bits R ws i hil HF.out _ 12 (by decide) (.inr (.inr ⟨hne0, hne1, rfl, rfl⟩))
                rw [show (12 : Nat) = 11 + 1 from rfl] at hnew
                rw [show (padT (11 + 1) (bits.drop i)) = padT 12 (bits.drop i) from rfl, hnx, show i + (11 + 1) = q + 1 by have := HQ.out; omega, show (11 + 1 : Nat) = 12 from rfl] at hnew
                clear hnx hne0 hne1 HX HF
                have hxi0 : ¬ ((x : Int) = 0) := by omega
                have hxi1 : ¬ ((x : Int) = 2047) := by omega
                by_cases hqT : q < T
                · have hql : q < bits.length := by omega
                  have hgd : bits.getD q true = bits[q] := by rw [List.getD, List.getElem?_eq_getElem hql]; rfl
                  have cB := cell_up (HCA.out q _ (bv_at bits q hql)) HW.out
                  rw [hgd] at hnew
                  generalize bits[q] = bb at *
                  clear hgd
                  cases bb
                  · have hnew2 : ∃ f, (bits.drop (q + 1)).length ≤ f ∧ (ws ++ [2 * x]) ++ stuffF 12 f (bits.drop (q + 1)) = R := hnew
                    have HNW := Lib.hid hnew2
                    clear hnew hnew2
                    go_wp2_with (at_builtin; refine list_app_rd _ rfl _ _ 25 rfl w.heap.size 3 i0 _ 8 Tryz.underlying25 hi0 hz0 hz1 hz2 rfl _ n (nv ws) rfl (HO.out.alloc _) _ _ [.int .i64 (2 * (x : Int))] rfl (Rd.one rfl 3 (.int .i64 (2 * (x : Int)))) (fun u hu => by rw [List.mem_singleton] at hu; rw [hu]; rfl) (by simp only [List.length_singleton]; unfold maxLen; omega) (by simp only [List.length_singleton]; omega) (Nat.le_trans hsz (by simp)) ?_; intro v5 w5 ho5 hg5)
                    have HB5 := Lib.hid (below_grown (bal HW.out (.cells #[.int .i64 (2 * (x : Int))] 3)) hg5 (HO.out.alloc _) (Nat.le_trans hsz (by simp)))
                    have hnx : nv ws ++ [.int .i64 (2 * (x : Int))] = nv (ws ++ [2 * x]) := by simp [nv]
                    rw [List.length_singleton, hnx] at ho5
                    have HO5 := Lib.hid ho5; clear ho5 hg5 hnx HO HW
                    go_wp2
                    go_roundw
                    case rel => exact ⟨q + 1, n + 1, ws ++ [2 * x], by omega, by omega, by go_num, HO5, HNW, HB5⟩
                    case measure => simp [intOf]; omega
                  · have hnew2 : ∃ f, (bits.drop (q + 1)).length ≤ f ∧ (ws ++ [2 * x + 1]) ++ stuffF 12 f (bits.drop (q + 1)) = R := hnew
                    have HNW := Lib.hid hnew2
                    clear hnew hnew2
                    go_wp2_with (at_builtin; refine list_app_rd _ rfl _ _ 25 rfl w.heap.size 3 i0 _ 8 Tryz.underlying25 hi0 hz0 hz1 hz2 rfl _ n (nv ws) rfl (HO.out.alloc _) _ _ [.int .i64 (2 * (x : Int) + 1)] rfl (Rd.one rfl 3 (.int .i64 (2 * (x : Int) + 1))) (fun u hu => by rw [List.mem_singleton] at hu; rw [hu]; rfl) (by simp only [List.length_singleton]; unfold maxLen; omega) (by simp only [List.length_singleton]; omega) (Nat.le_trans hsz (by simp)) ?_; intro v5 w5 ho5 hg5)
                    have HB5 := Lib.hid (below_grown (bal HW.out (.cells #[.int .i64 (2 * (x : Int) + 1)] 3)) hg5 (HO.out.alloc _) (Nat.le_trans hsz (by simp)))
                    have hnx : nv ws ++ [.int .i64 (2 * (x : Int) + 1)] = nv (ws ++ [2 * x + 1]) := by simp [nv]
                    rw [List.length_singleton, hnx] at ho5
                    have HO5 := Lib.hid ho5; clear ho5 hg5 hnx HO HW
                    go_wp2
                    go_roundw
                    case rel => exact ⟨q + 1, n + 1, ws ++ [2 * x + 1], by omega, by omega, by go_num, HO5, HNW, HB5⟩
                    case measure => simp [intOf]; omega
                · have hgd : bits.getD q true = true := by rw [List.getD, List.getElem?_eq_none (by omega)]; rfl
                  rw [hgd] at hnew
                  clear hgd
                  have hnew2 : ∃ f, (bits.drop (q + 1)).length ≤ f ∧ (ws ++ [2 * x + 1]) ++ stuffF 12 f (bits.drop (q + 1)) = R := hnew
                  have HNW := Lib.hid hnew2
                  clear hnew hnew2
                  go_wp2_with (at_builtin; refine list_app_rd _ rfl _ _ 25 rfl w.heap.size 3 i0 _ 8 Tryz.underlying25 hi0 hz0 hz1 hz2 rfl _ n (nv ws) rfl (HO.out.alloc _) _ _ [.int .i64 (2 * (x : Int) + 1)] rfl (Rd.one rfl 3 (.int .i64 (2 * (x : Int) + 1))) (fun u hu => by rw [List.mem_singleton] at hu; rw [hu]; rfl) (by simp only [List.length_singleton]; unfold maxLen; omega) (by simp only [List.length_singleton]; omega) (Nat.le_trans hsz (by simp)) ?_; intro v5 w5 ho5 hg5)
                  have HB5 := Lib.hid (below_grown (bal HW.out (.cells #[.int .i64 (2 * (x : Int) + 1)] 3)) hg5 (HO.out.alloc _) (Nat.le_trans hsz (by simp)))
                  have hnx : nv ws ++ [.int .i64 (2 * (x : Int) + 1)] = nv (ws ++ [2 * x + 1]) := by simp [nv]
                  rw [List.length_singleton, hnx] at ho5
                  have HO5 := Lib.hid ho5; clear ho5 hg5 hnx HO HW
                  go_wp2
                  go_roundw
                  case rel => exact ⟨q + 1, n + 1, ws ++ [2 * x + 1], by omega, by omega, by go_num, HO5, HNW, HB5⟩
                  case measure => simp [intOf]; omega
      · have hR : ws = R := by
          obtain ⟨f, _, h9⟩ := HF.out
          rw [List.drop_of_length_le (by omega)] at h9
          cases f with
          | zero => rw [← h9]; unfold stuffF; simp
          | succ f => rw [← h9]; unfold stuffF; simp
        subst hR
        have HV := Lib.hid (RdT.of_own HO.out)
        go_wp2
        go_ret
        exact ⟨_, rfl, HV.out, HW.out⟩
end Go.Proofs.YtopfdmmimgnciaaGreatDoor
