/-
  THE LAW of the order of widths, walked.
-/
import Derived.Test.YtknipefcihkofaaRv4
import Derived.Test.YtknipefcihkofaaRvP
namespace Go.Proofs.Ytknipefcihkofaa
open Go.RowKit Go.WideShapes Go.ChangeShapes

theorem fd_drop (x y : List Nat) (k : Nat) (hx : k < x.length) (hy : k < y.length) : fd (x.drop k) (y.drop k) = if x.getD k 0 = y.getD k 0 then fd (x.drop (k + 1)) (y.drop (k + 1)) else (x.getD k 0 : Int) - (y.getD k 0 : Int) := by
  rw [List.drop_eq_getElem_cons hx, List.drop_eq_getElem_cons hy]
  have e1 : x.getD k 0 = x[k] := by rw [List.getD, List.getElem?_eq_getElem hx]; rfl
  have e2 : y.getD k 0 = y[k] := by rw [List.getD, List.getElem?_eq_getElem hy]; rfl
  rw [e1, e2]
  rfl
set_option maxHeartbeats 2000000 in
set_option maxRecDepth 100000 in
theorem order_walk (va vb : Value) (xs ys : List Nat) (n : Nat) (w : World) (ha : Rd w w.heap.size va (uv8 xs)) (hb : Rd w w.heap.size vb (uv8 ys)) (hx : ∀ x ∈ xs, x < 256) (hy : ∀ x ∈ ys, x < 256) (hn : n < 256) :
    Calls Try.prog 4 #[va, vb, .int .u8 n] w fun e w' => e = .returned (.bool true) ∧ Below w.heap.size w w' := by
  obtain ⟨A, ca, rfl, ha1, ha2, ha3⟩ := id ha
  obtain ⟨B, cb, rfl, hb1, hb2, hb3⟩ := id hb
  have HA := Lib.hid ha; clear ha ha3
  have HB := Lib.hid hb; clear hb hb3
  simp only [uv8_len] at *
  unfold maxLen at ha2 hb2
  by_cases hba : (2147483647 : Int) < (xs.length : Int)
  · go_enter Try.func4, Try.ntmps4
    go_wp2
    go_ret
    exact ⟨rfl, brf w⟩
  by_cases hbb : (2147483647 : Int) < (ys.length : Int)
  · go_enter Try.func4, Try.ntmps4
    go_wp2
    go_ret
    exact ⟨rfl, brf w⟩
  have e0 : decide ((2147483647 : Int) < (xs.length : Int)) = false := decide_eq_false hba
  have e1 : decide ((2147483647 : Int) < (ys.length : Int)) = false := decide_eq_false hbb
  clear hba hbb
  have hm1 : 1 ≤ 1 + n % 9 := by omega
  have hm9 : 1 + n % 9 ≤ 9 := by omega
  go_enter Try.func4, Try.ntmps4
  go_wp2_with fail
  refine (most_any n w hn).mono ?_
  rintro e w1 ⟨rfl, rfl⟩
  generalize 1 + n % 9 = most at *
  go_wp2_with fail
  refine (widths_any _ xs most w1 HA.out hx hm1 hm9).mono ?_
  rintro e w2 ⟨v1, rfl, hv1, hb1⟩
  have HV1 := Lib.hid hv1; clear hv1
  have HW1 := Lib.hid hb1; clear hb1
  go_wp2_with fail
  refine (widths_any _ ys most w2 (HB.out.up HW1.out) hy hm1 hm9).mono ?_
  rintro e w3 ⟨v2, rfl, hv2, hb2⟩
  have HV2 := Lib.hid hv2; clear hv2
  have HV3 := Lib.hid (HV1.out.up hb2)
  have HW2 := Lib.hid (bup HW1.out hb2); clear hb2 HV1 HW1
  obtain ⟨hlx1, hlx6⟩ := wl_len xs most
  obtain ⟨hly1, hly6⟩ := wl_len ys most
  have HIX := Lib.hid (wl_in xs most hm1)
  have HIY := Lib.hid (wl_in ys most hm1)
  generalize wl xs most = x at *
  generalize wl ys most = y at *
  have HX9 : Hid (∀ a ∈ x, 1 ≤ a ∧ a ≤ 9) := Lib.hid (fun a h => by have := HIX.out a h; omega)
  have HY9 : Hid (∀ a ∈ y, 1 ≤ a ∧ a ≤ 9) := Lib.hid (fun a h => by have := HIY.out a h; omega)
  obtain ⟨A1, c1, rfl, h11, h12, h13⟩ := id HV3.out
  obtain ⟨A2, c2, rfl, h21, h22, h23⟩ := id HV2.out
  have H13 := Lib.hid h13; clear h13
  have H23 := Lib.hid h23; clear h23
  simp only [nv_len] at *
  unfold maxLen at h12 h22
  by_cases hlen : x.length = y.length
  · have el : ((x.length : Int) != (y.length : Int)) = false := by simp [hlen]
    have HLE := Lib.hid hlen; clear hlen
    go_wp2_with fail
    refine (sum_any _ x w3 HV3.out hlx6 HX9.out).mono ?_
    rintro e w4 ⟨rfl, rfl⟩
    go_wp2_with fail
    refine (sum_any _ y w4 HV2.out hly6 HY9.out).mono ?_
    rintro e w5 ⟨rfl, rfl⟩
    by_cases hsum : x.sum = y.sum
    · have es : ((x.sum : Int) != (y.sum : Int)) = false := by simp [hsum]
      have HSE := Lib.hid hsum; clear hsum
      go_wp2_with fail
      refine (asked_any _ x most w5 HV3.out hlx6 HX9.out hm9).mono ?_
      rintro e w6 ⟨rfl, rfl⟩
      by_cases hask : (x.sum : Int) - (x.length : Int) < 2 * (most : Int)
      · rw [decide_eq_true hask]
        have HAK : Hid (x.sum - x.length < 2 * most) := Lib.hid (by omega)
        clear hask
        go_wp2
        go_loopw [10, 50] (fun o i wr => ∃ (k : Nat) (d : Int), k ≤ x.length ∧ i = .int .i64 k ∧ o = .int .i64 d ∧ -8 ≤ d ∧ d ≤ 8 ∧ Hid (fd x y = if d = 0 then fd (x.drop k) (y.drop k) else d) ∧ ∃ nq, wr = w6.drewN nq) (fun _ i _ => x.length - (intOf i).toNat)
        case atStart => exact ⟨0, 0, Nat.zero_le _, rfl, rfl, by omega, by omega, Lib.hid (by simp), 0, rfl⟩
        case round =>
          obtain ⟨k, d, hk, rfl, rfl, hd1, hd2, HD, nq, rfl⟩ := hrel
          by_cases hlt : k < x.length
          · have hlty : k < y.length := by rw [← HLE.out]; exact hlt
            obtain ⟨b1, o1, rfl, hb1, hc1⟩ := H13.out (by omega)
            obtain ⟨b2, o2, rfl, hb2, hc2⟩ := H23.out (by omega)
            have cc1 := hc1 k _ (nv_at x k hlt)
            have cc2 := hc2 k _ (nv_at y k hlty)
            have hdr := fd_drop x y k hlt hlty
            have hx9 : 1 ≤ x.getD k 0 ∧ x.getD k 0 ≤ 9 := by rw [List.getD, List.getElem?_eq_getElem hlt]; exact HX9.out _ (List.getElem_mem hlt)
            have hy9 : 1 ≤ y.getD k 0 ∧ y.getD k 0 ≤ 9 := by rw [List.getD, List.getElem?_eq_getElem hlty]; exact HY9.out _ (List.getElem_mem hlty)
            clear hc1 hc2
            generalize x.getD k 0 = p at *
            generalize y.getD k 0 = q at *
            have HDR := Lib.hid hdr; clear hdr
            by_cases hd0 : d = 0
            · subst hd0
              by_cases hpq : p = q
              · have epq : ((p : Int) != (q : Int)) = false := by simp [hpq]
                have HN : Hid (fd x y = if (0 : Int) = 0 then fd (x.drop (k + 1)) (y.drop (k + 1)) else 0) := Lib.hid (by rw [HD.out, if_pos rfl, if_pos rfl, HDR.out, if_pos hpq])
                clear hpq
                go_wp2
                go_quiet (fail)
                go_wp2
                go_roundw
                case rel => exact ⟨k + 1, 0, by omega, by go_num, rfl, by omega, by omega, HN, _, rfl⟩
                case measure => simp [intOf]; omega
              · have epq : ((p : Int) != (q : Int)) = true := by simp; omega
                have HN : Hid (fd x y = if (p : Int) - (q : Int) = 0 then fd (x.drop (k + 1)) (y.drop (k + 1)) else (p : Int) - (q : Int)) := Lib.hid (by rw [HD.out, if_pos rfl, HDR.out, if_neg hpq, if_neg (by omega)])
                clear hpq
                go_wp2
                go_quiet (fail)
                go_wp2
                go_quiet (fail)
                go_wp2
                go_roundw
                case rel => exact ⟨k + 1, (p : Int) - (q : Int), by omega, by go_num, rfl, by omega, by omega, HN, _, rfl⟩
                case measure => simp [intOf]; omega
            · have ed : (d == 0) = false := by rw [beq_eq_false_iff_ne]; exact hd0
              have HN : Hid (fd x y = if d = 0 then fd (x.drop (k + 1)) (y.drop (k + 1)) else d) := Lib.hid (by rw [HD.out, if_neg hd0, if_neg hd0])
              go_wp2
              go_quiet (fail)
              go_wp2
              go_roundw
              case rel => exact ⟨k + 1, d, by omega, by go_num, rfl, by omega, by omega, HN, _, rfl⟩
              case measure => simp [intOf]; omega
          · obtain rfl : k = x.length := by omega
            have HF : Hid (d = fd x y) := Lib.hid (by
              rw [HD.out]
              by_cases hd0 : d = 0
              · rw [if_pos hd0, List.drop_eq_nil_of_le (Nat.le_refl _)]; rw [hd0]; rfl
              · rw [if_neg hd0])
            have HLT : Hid ((fd x y < 0 → val most x.sum x < val most y.sum y) ∧ (0 < fd x y → val most y.sum y < val most x.sum x) ∧ (fd x y = 0 → val most x.sum x = val most y.sum y)) := Lib.hid ⟨fun h => val_lt most hm1 hm9 x y HLE.out hlx6 HIX.out HIY.out HSE.out HAK.out h,
              fun h => val_lt most hm1 hm9 y x HLE.out.symm hly6 HIY.out HIX.out HSE.out.symm (by rw [← HSE.out, ← HLE.out]; exact HAK.out) (by rw [fd_neg]; omega), fun h => by rw [fd_eq x y HLE.out h]⟩
            rw [← HF.out] at HLT
            have HV3' := Lib.hid (HV3.out.up (bdn (brf _) nq))
            have HV2' := Lib.hid (HV2.out.up (bdn (brf _) nq))
            go_wp2_with fail
            refine (value_any _ x most _ HV3'.out hlx6 hlx1 HX9.out hm9).mono ?_
            rintro e w7 ⟨rfl, hb7⟩
            have HW7 := Lib.hid (bup (bdn HW2.out nq) hb7)
            have HV7 := Lib.hid (HV2'.out.up hb7)
            clear hb7
            go_wp2_with fail
            refine (value_any _ y most w7 HV7.out hly6 hly1 HY9.out hm9).mono ?_
            rintro e w8 ⟨rfl, hb8⟩
            have HW8 := Lib.hid (bup HW7.out hb8)
            clear hb8
            have hl1 := HLT.out.1
            have hl2 := HLT.out.2.1
            have hl3 := HLT.out.2.2
            generalize val most x.sum x = p at *
            generalize val most y.sum y = q at *
            rcases Int.lt_trichotomy d 0 with hd | hd | hd
            · have e3 := hl1 hd
              clear hl1 hl2 hl3
              go_wp2
              go_ret
              exact ⟨by simp, HW8.out⟩
            · have e3 := hl3 hd
              clear hl1 hl2 hl3
              subst hd
              go_wp2
              go_ret
              exact ⟨by simp, HW8.out⟩
            · have e3 := hl2 hd
              clear hl1 hl2 hl3
              go_wp2
              go_ret
              exact ⟨by simp, HW8.out⟩
      · rw [decide_eq_false hask]
        go_wp2
        go_ret
        exact ⟨rfl, HW2.out⟩
    · have es : ((x.sum : Int) != (y.sum : Int)) = true := by simp; omega
      go_wp2
      go_ret
      exact ⟨rfl, HW2.out⟩
  · have el : ((x.length : Int) != (y.length : Int)) = true := by simp; omega
    go_wp2
    go_ret
    exact ⟨rfl, HW2.out⟩
theorem vals_uv8 {l : List Int} (wf : ∀ n ∈ l, (Lit.int .u8 n).wf = true) : vals .u8 l = uv8 (l.map Int.toNat) ∧ ∀ x ∈ l.map Int.toNat, x < 256 := by
  constructor
  · unfold vals uv8
    rw [List.map_map]
    apply List.map_congr_left
    intro n hn
    have := bounds_u8 (wf n hn)
    simp only [Function.comp]
    rw [Int.toNat_of_nonneg this.1]
  · intro x hx
    obtain ⟨n, hn, rfl⟩ := List.mem_map.1 hx
    have := bounds_u8 (wf n hn)
    omega
theorem order_law (va vb : Value) (a b : List Int) (n : Nat) (w : World) (ha : Rd w w.heap.size va (vals .u8 a)) (hb : Rd w w.heap.size vb (vals .u8 b)) (wa : ∀ n ∈ a, (Lit.int .u8 n).wf = true) (wb : ∀ n ∈ b, (Lit.int .u8 n).wf = true) (hn : n < 256) :
    Calls Try.prog 4 #[va, vb, .int .u8 n] w fun e w' => e = .returned (.bool true) ∧ Below w.heap.size w w' :=
  order_walk va vb (a.map Int.toNat) (b.map Int.toNat) n w (by rw [← (vals_uv8 wa).1]; exact ha) (by rw [← (vals_uv8 wb).1]; exact hb) (vals_uv8 wa).2 (vals_uv8 wb).2 hn
end Go.Proofs.Ytknipefcihkofaa
