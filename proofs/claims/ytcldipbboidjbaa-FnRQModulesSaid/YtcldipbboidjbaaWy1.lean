/-
  WALK: spec.QRWay.
-/
import Derived.Test.YtcldipbboidjbaaQg1
import Derived.Test.YtcldipbboidjbaaSh2
namespace Go.Proofs.Ytcldipbboidjbaa
open Go.RowKit

/-- The column at which round k of the way begins. -/
def headI (n k : Nat) : Int := if 2 * k + 7 ≤ n then (n : Int) - 1 - 2 * k else (n : Int) - 2 - 2 * k
theorem headI_next (n k : Nat) (hn : n % 2 = 1) : (rgt n k : Int) - 2 = headI n (k + 1) ∨ n < 2 * k + 3 := by
  unfold rgt headI
  split <;> split <;> omega
/-- A round's step. -/
theorem way_step (v k i d r c : Nat) (gb : Bool) (hi : i < 17 + 4 * v) (hd : d < 2) (hr : r = rowW (17 + 4 * v) k i) (hc : c = rgt (17 + 4 * v) k - d) (hg : givB v c r = gb) :
    way v ((k * (17 + 4 * v) + i) * 2 + (d + 1)) = way v ((k * (17 + 4 * v) + i) * 2 + d) ++ (if gb = true then [] else [(r, c)]) := by
  rw [← Nat.add_assoc, way_succ, plc_at _ k i d hi hd, ← hr, ← hc]
  unfold ngB
  rw [hg]
  cases gb <;> rfl
theorem way_bound (v t : Nat) : (way v t).length ≤ t := by
  unfold way
  exact Nat.le_trans (List.length_filter_le _ _) (by simp)
set_option maxRecDepth 100000 in
set_option maxHeartbeats 4000000 in
theorem qrWay_any (v : Nat) (w0 : World) (h1 : 1 ≤ v) (h2 : v ≤ 40) :
    Calls Try.prog 21 #[.int .i64 v] w0 fun e w' => ∃ s B, e = .returned s ∧ w0.heap.size ≤ B ∧ w'.ownsRow B 56 2 s (wayL v).length (cellsE (wayL v)) ∧ Below w0.heap.size w0 w' := by
  have hDim := specDim_any v w0 h2
  have hgr := fun w' => given_rows v w' h1 h2
  obtain ⟨i0, hi0, hz0, hz1, hz2⟩ := info_two info_pair
  have hwl : wayL v = way v ((17 + 4 * v - 1) / 2 * (17 + 4 * v) * 2) := rfl
  have hnn : 17 + 4 * v = 17 + 4 * v := rfl
  obtain ⟨m, hm⟩ : ∃ m, m = (17 + 4 * v - 1) / 2 := ⟨_, rfl⟩
  have hm2 : 17 + 4 * v ≤ 2 * m + 1 ∧ 2 * m + 1 ≤ 17 + 4 * v := by omega
  have hm10 : 10 ≤ m ∧ m ≤ 88 := by omega
  rw [← hm] at hwl
  clear hm
  generalize hN : 17 + 4 * v = n at *
  have HN := Lib.hid hN.symm
  have hn177 : n ≤ 177 := by omega
  have hn21 : 21 ≤ n := by omega
  have HWL := Lib.hid hwl
  clear hN hnn hwl
  go_enter Try.func21, Try.ntmps21
  go_wp2_with fail
  refine hDim.mono ?_
  rintro e w ⟨rfl, rfl⟩
  go_wp2_with fail
  refine (hgr _).mono ?_
  rintro e w2 ⟨s, rfl, hs, hb⟩
  obtain ⟨gb0, go0, gcap, rfl, hg1, hg2, HROW⟩ := hs.at_ (by rw [rowsF_len]; omega)
  rw [rowsF_len] at hg1 HROW ⊢
  have HRL : Hid (∀ i, i < n → ((rowsF n n (givB v)).getD i []).length = n) := Lib.hid (fun i hi => by rw [rowsF_at _ _ _ _ hi, rowF_len])
  have HGF : Hid (∀ i c, i < n → c < n → ((rowsF n n (givB v)).getD i []).getD c false = givB v c i) := Lib.hid (fun i c hi hc => by
    rw [rowsF_at _ _ _ _ hi, List.getD, List.getElem?_eq_getElem (by rw [rowF_len]; exact hc), Option.getD_some, rowF_at])
  have HB0 := Lib.hid hb
  clear hs hb hDim hgr
  go_wp2_with fail
  go_loopw [5, 6, 7] (fun ov uv rv wr => ∃ (k N : Nat), k ≤ m ∧ rv = .int .i64 (headI n k) ∧ uv = .bool (decide (k % 2 = 0)) ∧ N ≤ 70000 ∧ Hid (N = (way v (k * n * 2)).length) ∧ Hid (wr.ownsRow w2.heap.size 56 2 ov N (cellsE (way v (k * n * 2)))) ∧ Hid (Below w2.heap.size w2 wr)) (fun _ _ rv _ => (intOf rv + 1).toNat)
  case atStart => exact ⟨0, 0, by omega, by unfold headI; rw [if_pos (by omega)]; congr 1; omega, by rfl, by omega, Lib.hid (by simp [way]), Lib.hid (by rw [Nat.zero_mul]; exact own_nil2 _ _ _), Lib.hid (brf w2)⟩
  case round =>
    obtain ⟨k, N, hk, rfl, rfl, hN, HNL, HO, HB⟩ := hrel
    by_cases hkl : k < m
    · obtain ⟨R, hR⟩ : ∃ R, R = rgt n k := ⟨_, rfl⟩
      have hnx : (R : Int) - 2 = headI n (k + 1) := by
        rcases headI_next n k (by omega) with h | h
        · rw [hR]; exact h
        · omega
      have hRb : 1 ≤ R ∧ R < n ∧ (2 * k + 7 = n → R = 5) ∧ (¬ 2 * k + 7 = n → headI n k = (R : Int) ∧ R ≠ 6) := by
        rw [hR]; unfold rgt headI; split <;> split <;> omega
      obtain ⟨hR1, hR2, hR3, hR4⟩ := hRb
      have HR : Hid (R = rgt (17 + 4 * v) k) := Lib.hid (by rw [← HN.out]; exact hR)
      have HNXT := Lib.hid hnx
      have HKN : Hid ((k * n + n) * 2 ≤ 2 * (88 * 177)) := Lib.hid (by
        have h9 : (k + 1) * n ≤ 88 * 177 := Nat.mul_le_mul (by omega) hn177
        rw [Nat.add_mul, Nat.one_mul] at h9
        omega)
      clear hR hnx
      by_cases hB : 2 * k + 7 = n
      · have hh : headI n k = 6 := by unfold headI; rw [if_pos (by omega)]; omega
        obtain rfl := hR3 hB
        rw [hh]
        clear hh hR3 hR4 hB
        by_cases hpar : k % 2 = 0
        · have HNX : Hid (decide ((k + 1) % 2 = 0) = false) := Lib.hid (decide_eq_false (by omega))
          have HRW0 : Hid (∀ i r, r = n - 1 - i → r = rowW (17 + 4 * v) k i) := Lib.hid (fun i r hr => by rw [← HN.out, hr]; unfold rowW; rw [if_pos hpar])
          rw [decide_eq_true hpar]
          clear hpar
          go_wp2_with fail
          -- the rows of a pair of columns
          go_loopw [5, 8] (fun ov iv wr => ∃ (i N : Nat), i ≤ n ∧ iv = .int .i64 (i : Int) ∧ N ≤ 70000 ∧ Hid (N = (way v ((k * n + i) * 2)).length) ∧ Hid (wr.ownsRow w2.heap.size 56 2 ov N (cellsE (way v ((k * n + i) * 2)))) ∧ Hid (Below w2.heap.size w2 wr)) (fun _ iv _ => n - (intOf iv).toNat)
          case atStart => exact ⟨0, N, by omega, rfl, hN, HNL, HO, HB⟩
          case round =>
            clear HNL HO HB hN
            rename World => wi
            obtain ⟨i, N, hi, rfl, hN, HNL, HO, HB⟩ := hrel
            by_cases hil : i < n
            · obtain ⟨r, hr⟩ : ∃ r, r = n - 1 - i := ⟨_, rfl⟩
              have e1 : (n : Int) - 1 - (i : Int) = (r : Int) := by omega
              have HRW := Lib.hid (HRW0.out i r hr)
              have hrn : r < n := by omega
              clear hr
              go_wp2_with fail
              -- the two columns of row r: r the row's fact
              go_loopw [5, 10] (fun ov cv wr => ∃ (d N : Nat), d ≤ 2 ∧ cv = .int .i64 (((5 : Nat) : Int) - (d : Int)) ∧ N ≤ 70000 ∧ Hid (N = (way v ((k * n + i) * 2 + d)).length) ∧ Hid (wr.ownsRow w2.heap.size 56 2 ov N (cellsE (way v ((k * n + i) * 2 + d)))) ∧ Hid (Below w2.heap.size w2 wr)) (fun _ cv _ => (intOf cv - ((5 : Nat) : Int) + 2).toNat)
              case atStart => exact ⟨0, N, by omega, congrArg (Value.int .i64) (by omega), by assumption, HNL, HO, HB⟩
              case round =>
                clear HNL HO HB
                rename World => wc
                obtain ⟨d, N, hd, rfl, hN, HNL, HO, HB⟩ := hrel
                by_cases hdl : d < 2
                · obtain ⟨c, hc⟩ : ∃ c, c = 5 - d := ⟨_, rfl⟩
                  have e1 : ((5 : Nat) : Int) - (d : Int) = (c : Int) := by omega
                  have hcn : c < n := by omega
                  have hcR : 5 ≤ c + 1 := by omega
                  obtain ⟨u, hu1, hu2⟩ := HROW.out r (by omega)
                  obtain ⟨gb, ho, cc, rfl, hc1, hc2, HBIT⟩ := row_at hu2 (by rw [HRL.out r (by omega)]; omega)
                  rw [HRL.out r (by omega)] at hu1 hc1 HBIT
                  have cR := cell_up hu1 HB.out
                  have cB := cell_up (HBIT.out c hcn) HB.out
                  rw [HGF.out r c (by omega) hcn] at cB
                  have HST : Hid (∀ g, givB v c r = g → way v ((k * n + i) * 2 + (d + 1)) = way v ((k * n + i) * 2 + d) ++ (if g = true then [] else [(r, c)])) := Lib.hid (fun g hg => by
                    have hn0 := HN.out
                    subst hn0
                    exact way_step v k i d r c g (by omega) hdl HRW.out (by rw [hc, HR.out]) hg)
                  have hbnd : N + 1 ≤ 70000 := by
                    have h9 := way_bound v ((k * n + i) * 2 + d)
                    rw [← HNL.out] at h9
                    have := HKN.out
                    omega
                  have e2 : (c : Int) - 1 = ((5 : Nat) : Int) - ((d + 1 : Nat) : Int) := by omega
                  have HE2 := Lib.hid e2
                  clear hu1 hu2 hc e2
                  generalize hgb : givB v c r = gv at *
                  have hw := HST.out gv rfl
                  rw [e1]
                  clear e1 HST hgb
                  cases gv
                  · rw [if_neg (by decide)] at hw
                    have HW2 := Lib.hid hw
                    clear hw
                    go_wp2_with (with_reducible refine stop_at (o := ⟨some 54, _, _, _, _, _⟩) ?_)
                    refine Lib.hid ?_
                    have hszw := HB.out.size
                    refine list_app2 rfl _ _ 54 rfl w2.heap.size 56 i0 _ 16 Try.underlying54 hi0 hz0 hz1 hz2 rfl _ N _ rfl (HO.out.alloc _) wc.heap.size (.int .i64 (r : Nat)) (.int .i64 (c : Nat)) rfl (Blk.fresh _ _ _) rfl rfl (by unfold maxLen; omega) (by omega) (by simp; omega) ?_
                    intro v5 w5 ho5 hg5
                    have HB5 := Lib.hid (below_grown (HB.out.alloc hszw (.cells #[.int .i64 (r : Nat), .int .i64 (c : Nat)] 56)) hg5 (HO.out.alloc _) (by simp; omega))
                    have HN5 : Hid (N + 1 = (way v ((k * n + i) * 2 + (d + 1))).length) := Lib.hid (by rw [HW2.out, List.length_append, ← HNL.out]; rfl)
                    have HO5 : Hid (w5.ownsRow w2.heap.size 56 2 v5 (N + 1) (cellsE (way v ((k * n + i) * 2 + (d + 1))))) := Lib.hid (by rw [HW2.out, cellsE_snoc]; exact ho5)
                    clear ho5 hg5 HO HB HNL HW2 hszw cR cB
                    go_wp2_with fail
                    go_roundw
                    case rel => exact ⟨d + 1, N + 1, by omega, by first | rfl | exact congrArg (Value.int .i64) HE2.out, by omega, HN5, HO5, HB5⟩
                    case measure => simp [intOf] <;> omega
                  · rw [if_pos rfl, List.append_nil] at hw
                    rw [← hw] at HNL HO
                    clear hw
                    go_wp2_with fail
                    go_roundw
                    case rel => exact ⟨d + 1, N, by omega, by first | rfl | exact congrArg (Value.int .i64) HE2.out, by omega, HNL, HO, HB⟩
                    case measure => simp [intOf] <;> omega
                · obtain rfl : d = 2 := by omega
                  have HN6 : Hid (N = (way v ((k * n + (i + 1)) * 2)).length) := Lib.hid (by rw [HNL.out]; congr 2; omega)
                  have HO6 : Hid (World.ownsRow wc w2.heap.size 56 2 u5 N (cellsE (way v ((k * n + (i + 1)) * 2)))) := Lib.hid (by rw [show (k * n + (i + 1)) * 2 = (k * n + i) * 2 + 2 by omega]; exact HO.out)
                  clear HNL HO
                  go_wp2_with fail
                  go_roundw
                  case rel => exact ⟨i + 1, N, by omega, by go_num, hN, HN6, HO6, HB⟩
                  case measure => simp [intOf] <;> omega
            · obtain rfl : n = i := by omega
              have e : (k * n + n) * 2 = (k + 1) * n * 2 := by rw [Nat.add_mul k 1, Nat.one_mul]
              rw [e] at HNL HO
              clear e hil hi
              go_wp2_with fail
              go_roundw
              case rel => exact ⟨k + 1, N, by omega, (by first | exact congrArg (Value.int .i64) HNXT.out | (rw [← HNXT.out]; rfl)), (by rw [HNX.out]), hN, HNL, HO, HB⟩
              case measure => have h9 := HNXT.out; first | (simp [intOf]; done) | (simp [intOf]; omega)
        · have HNX : Hid (decide ((k + 1) % 2 = 0) = true) := Lib.hid (decide_eq_true (by omega))
          have HRW0 : Hid (∀ i, i = rowW (17 + 4 * v) k i) := Lib.hid (fun i => by unfold rowW; rw [if_neg hpar])
          rw [decide_eq_false hpar]
          clear hpar
          go_wp2_with fail
          -- the rows of a pair of columns
          go_loopw [5, 8] (fun ov iv wr => ∃ (i N : Nat), i ≤ n ∧ iv = .int .i64 (i : Int) ∧ N ≤ 70000 ∧ Hid (N = (way v ((k * n + i) * 2)).length) ∧ Hid (wr.ownsRow w2.heap.size 56 2 ov N (cellsE (way v ((k * n + i) * 2)))) ∧ Hid (Below w2.heap.size w2 wr)) (fun _ iv _ => n - (intOf iv).toNat)
          case atStart => exact ⟨0, N, by omega, rfl, hN, HNL, HO, HB⟩
          case round =>
            clear HNL HO HB hN
            rename World => wi
            obtain ⟨i, N, hi, rfl, hN, HNL, HO, HB⟩ := hrel
            by_cases hil : i < n
            · have HRW := Lib.hid (HRW0.out i)
              go_wp2_with fail
              -- the two columns of row r: i the row's fact
              go_loopw [5, 10] (fun ov cv wr => ∃ (d N : Nat), d ≤ 2 ∧ cv = .int .i64 (((5 : Nat) : Int) - (d : Int)) ∧ N ≤ 70000 ∧ Hid (N = (way v ((k * n + i) * 2 + d)).length) ∧ Hid (wr.ownsRow w2.heap.size 56 2 ov N (cellsE (way v ((k * n + i) * 2 + d)))) ∧ Hid (Below w2.heap.size w2 wr)) (fun _ cv _ => (intOf cv - ((5 : Nat) : Int) + 2).toNat)
              case atStart => exact ⟨0, N, by omega, congrArg (Value.int .i64) (by omega), by assumption, HNL, HO, HB⟩
              case round =>
                clear HNL HO HB
                rename World => wc
                obtain ⟨d, N, hd, rfl, hN, HNL, HO, HB⟩ := hrel
                by_cases hdl : d < 2
                · obtain ⟨c, hc⟩ : ∃ c, c = 5 - d := ⟨_, rfl⟩
                  have e1 : ((5 : Nat) : Int) - (d : Int) = (c : Int) := by omega
                  have hcn : c < n := by omega
                  have hcR : 5 ≤ c + 1 := by omega
                  obtain ⟨u, hu1, hu2⟩ := HROW.out i (by omega)
                  obtain ⟨gb, ho, cc, rfl, hc1, hc2, HBIT⟩ := row_at hu2 (by rw [HRL.out i (by omega)]; omega)
                  rw [HRL.out i (by omega)] at hu1 hc1 HBIT
                  have cR := cell_up hu1 HB.out
                  have cB := cell_up (HBIT.out c hcn) HB.out
                  rw [HGF.out i c (by omega) hcn] at cB
                  have HST : Hid (∀ g, givB v c i = g → way v ((k * n + i) * 2 + (d + 1)) = way v ((k * n + i) * 2 + d) ++ (if g = true then [] else [(i, c)])) := Lib.hid (fun g hg => by
                    have hn0 := HN.out
                    subst hn0
                    exact way_step v k i d i c g (by omega) hdl HRW.out (by rw [hc, HR.out]) hg)
                  have hbnd : N + 1 ≤ 70000 := by
                    have h9 := way_bound v ((k * n + i) * 2 + d)
                    rw [← HNL.out] at h9
                    have := HKN.out
                    omega
                  have e2 : (c : Int) - 1 = ((5 : Nat) : Int) - ((d + 1 : Nat) : Int) := by omega
                  have HE2 := Lib.hid e2
                  clear hu1 hu2 hc e2
                  generalize hgb : givB v c i = gv at *
                  have hw := HST.out gv rfl
                  rw [e1]
                  clear e1 HST hgb
                  cases gv
                  · rw [if_neg (by decide)] at hw
                    have HW2 := Lib.hid hw
                    clear hw
                    go_wp2_with (with_reducible refine stop_at (o := ⟨some 54, _, _, _, _, _⟩) ?_)
                    refine Lib.hid ?_
                    have hszw := HB.out.size
                    refine list_app2 rfl _ _ 54 rfl w2.heap.size 56 i0 _ 16 Try.underlying54 hi0 hz0 hz1 hz2 rfl _ N _ rfl (HO.out.alloc _) wc.heap.size (.int .i64 (i : Nat)) (.int .i64 (c : Nat)) rfl (Blk.fresh _ _ _) rfl rfl (by unfold maxLen; omega) (by omega) (by simp; omega) ?_
                    intro v5 w5 ho5 hg5
                    have HB5 := Lib.hid (below_grown (HB.out.alloc hszw (.cells #[.int .i64 (i : Nat), .int .i64 (c : Nat)] 56)) hg5 (HO.out.alloc _) (by simp; omega))
                    have HN5 : Hid (N + 1 = (way v ((k * n + i) * 2 + (d + 1))).length) := Lib.hid (by rw [HW2.out, List.length_append, ← HNL.out]; rfl)
                    have HO5 : Hid (w5.ownsRow w2.heap.size 56 2 v5 (N + 1) (cellsE (way v ((k * n + i) * 2 + (d + 1))))) := Lib.hid (by rw [HW2.out, cellsE_snoc]; exact ho5)
                    clear ho5 hg5 HO HB HNL HW2 hszw cR cB
                    go_wp2_with fail
                    go_roundw
                    case rel => exact ⟨d + 1, N + 1, by omega, by first | rfl | exact congrArg (Value.int .i64) HE2.out, by omega, HN5, HO5, HB5⟩
                    case measure => simp [intOf] <;> omega
                  · rw [if_pos rfl, List.append_nil] at hw
                    rw [← hw] at HNL HO
                    clear hw
                    go_wp2_with fail
                    go_roundw
                    case rel => exact ⟨d + 1, N, by omega, by first | rfl | exact congrArg (Value.int .i64) HE2.out, by omega, HNL, HO, HB⟩
                    case measure => simp [intOf] <;> omega
                · obtain rfl : d = 2 := by omega
                  have HN6 : Hid (N = (way v ((k * n + (i + 1)) * 2)).length) := Lib.hid (by rw [HNL.out]; congr 2; omega)
                  have HO6 : Hid (World.ownsRow wc w2.heap.size 56 2 u5 N (cellsE (way v ((k * n + (i + 1)) * 2)))) := Lib.hid (by rw [show (k * n + (i + 1)) * 2 = (k * n + i) * 2 + 2 by omega]; exact HO.out)
                  clear HNL HO
                  go_wp2_with fail
                  go_roundw
                  case rel => exact ⟨i + 1, N, by omega, by go_num, hN, HN6, HO6, HB⟩
                  case measure => simp [intOf] <;> omega
            · obtain rfl : n = i := by omega
              have e : (k * n + n) * 2 = (k + 1) * n * 2 := by rw [Nat.add_mul k 1, Nat.one_mul]
              rw [e] at HNL HO
              clear e hil hi
              go_wp2_with fail
              go_roundw
              case rel => exact ⟨k + 1, N, by omega, (by first | exact congrArg (Value.int .i64) HNXT.out | (rw [← HNXT.out]; rfl)), (by rw [HNX.out]), hN, HNL, HO, HB⟩
              case measure => have h9 := HNXT.out; first | (simp [intOf]; done) | (simp [intOf]; omega)
      · obtain ⟨hh, h6⟩ := hR4 hB
        rw [hh]
        have hR0 : decide ((0 : Int) < (R : Int)) = true := decide_eq_true (by omega)
        have hR00 : 0 < R := by omega
        have hR6 : ((R : Int) == 6) = false := by rw [beq_eq_false_iff_ne]; omega
        clear hh hR3 hR4 hB
        by_cases hpar : k % 2 = 0
        · have HNX : Hid (decide ((k + 1) % 2 = 0) = false) := Lib.hid (decide_eq_false (by omega))
          have HRW0 : Hid (∀ i r, r = n - 1 - i → r = rowW (17 + 4 * v) k i) := Lib.hid (fun i r hr => by rw [← HN.out, hr]; unfold rowW; rw [if_pos hpar])
          rw [decide_eq_true hpar]
          clear hpar
          go_wp2_with fail
          -- the rows of a pair of columns
          go_loopw [5, 8] (fun ov iv wr => ∃ (i N : Nat), i ≤ n ∧ iv = .int .i64 (i : Int) ∧ N ≤ 70000 ∧ Hid (N = (way v ((k * n + i) * 2)).length) ∧ Hid (wr.ownsRow w2.heap.size 56 2 ov N (cellsE (way v ((k * n + i) * 2)))) ∧ Hid (Below w2.heap.size w2 wr)) (fun _ iv _ => n - (intOf iv).toNat)
          case atStart => exact ⟨0, N, by omega, rfl, hN, HNL, HO, HB⟩
          case round =>
            clear HNL HO HB hN
            rename World => wi
            obtain ⟨i, N, hi, rfl, hN, HNL, HO, HB⟩ := hrel
            by_cases hil : i < n
            · obtain ⟨r, hr⟩ : ∃ r, r = n - 1 - i := ⟨_, rfl⟩
              have e1 : (n : Int) - 1 - (i : Int) = (r : Int) := by omega
              have HRW := Lib.hid (HRW0.out i r hr)
              have hrn : r < n := by omega
              clear hr
              go_wp2_with fail
              -- the two columns of row r: r the row's fact
              go_loopw [5, 10] (fun ov cv wr => ∃ (d N : Nat), d ≤ 2 ∧ cv = .int .i64 (((R : Nat) : Int) - (d : Int)) ∧ N ≤ 70000 ∧ Hid (N = (way v ((k * n + i) * 2 + d)).length) ∧ Hid (wr.ownsRow w2.heap.size 56 2 ov N (cellsE (way v ((k * n + i) * 2 + d)))) ∧ Hid (Below w2.heap.size w2 wr)) (fun _ cv _ => (intOf cv - ((R : Nat) : Int) + 2).toNat)
              case atStart => exact ⟨0, N, by omega, congrArg (Value.int .i64) (by omega), by assumption, HNL, HO, HB⟩
              case round =>
                clear HNL HO HB
                rename World => wc
                obtain ⟨d, N, hd, rfl, hN, HNL, HO, HB⟩ := hrel
                by_cases hdl : d < 2
                · obtain ⟨c, hc⟩ : ∃ c, c = R - d := ⟨_, rfl⟩
                  have e1 : ((R : Nat) : Int) - (d : Int) = (c : Int) := by omega
                  have hcn : c < n := by omega
                  have hcR : R ≤ c + 1 := by omega
                  obtain ⟨u, hu1, hu2⟩ := HROW.out r (by omega)
                  obtain ⟨gb, ho, cc, rfl, hc1, hc2, HBIT⟩ := row_at hu2 (by rw [HRL.out r (by omega)]; omega)
                  rw [HRL.out r (by omega)] at hu1 hc1 HBIT
                  have cR := cell_up hu1 HB.out
                  have cB := cell_up (HBIT.out c hcn) HB.out
                  rw [HGF.out r c (by omega) hcn] at cB
                  have HST : Hid (∀ g, givB v c r = g → way v ((k * n + i) * 2 + (d + 1)) = way v ((k * n + i) * 2 + d) ++ (if g = true then [] else [(r, c)])) := Lib.hid (fun g hg => by
                    have hn0 := HN.out
                    subst hn0
                    exact way_step v k i d r c g (by omega) hdl HRW.out (by rw [hc, HR.out]) hg)
                  have hbnd : N + 1 ≤ 70000 := by
                    have h9 := way_bound v ((k * n + i) * 2 + d)
                    rw [← HNL.out] at h9
                    have := HKN.out
                    omega
                  have e2 : (c : Int) - 1 = ((R : Nat) : Int) - ((d + 1 : Nat) : Int) := by omega
                  have HE2 := Lib.hid e2
                  clear hu1 hu2 hc e2
                  generalize hgb : givB v c r = gv at *
                  have hw := HST.out gv rfl
                  rw [e1]
                  clear e1 HST hgb
                  cases gv
                  · rw [if_neg (by decide)] at hw
                    have HW2 := Lib.hid hw
                    clear hw
                    go_wp2_with (with_reducible refine stop_at (o := ⟨some 54, _, _, _, _, _⟩) ?_)
                    refine Lib.hid ?_
                    have hszw := HB.out.size
                    refine list_app2 rfl _ _ 54 rfl w2.heap.size 56 i0 _ 16 Try.underlying54 hi0 hz0 hz1 hz2 rfl _ N _ rfl (HO.out.alloc _) wc.heap.size (.int .i64 (r : Nat)) (.int .i64 (c : Nat)) rfl (Blk.fresh _ _ _) rfl rfl (by unfold maxLen; omega) (by omega) (by simp; omega) ?_
                    intro v5 w5 ho5 hg5
                    have HB5 := Lib.hid (below_grown (HB.out.alloc hszw (.cells #[.int .i64 (r : Nat), .int .i64 (c : Nat)] 56)) hg5 (HO.out.alloc _) (by simp; omega))
                    have HN5 : Hid (N + 1 = (way v ((k * n + i) * 2 + (d + 1))).length) := Lib.hid (by rw [HW2.out, List.length_append, ← HNL.out]; rfl)
                    have HO5 : Hid (w5.ownsRow w2.heap.size 56 2 v5 (N + 1) (cellsE (way v ((k * n + i) * 2 + (d + 1))))) := Lib.hid (by rw [HW2.out, cellsE_snoc]; exact ho5)
                    clear ho5 hg5 HO HB HNL HW2 hszw cR cB
                    go_wp2_with fail
                    go_roundw
                    case rel => exact ⟨d + 1, N + 1, by omega, by first | rfl | exact congrArg (Value.int .i64) HE2.out, by omega, HN5, HO5, HB5⟩
                    case measure => simp [intOf] <;> omega
                  · rw [if_pos rfl, List.append_nil] at hw
                    rw [← hw] at HNL HO
                    clear hw
                    go_wp2_with fail
                    go_roundw
                    case rel => exact ⟨d + 1, N, by omega, by first | rfl | exact congrArg (Value.int .i64) HE2.out, by omega, HNL, HO, HB⟩
                    case measure => simp [intOf] <;> omega
                · obtain rfl : d = 2 := by omega
                  have HN6 : Hid (N = (way v ((k * n + (i + 1)) * 2)).length) := Lib.hid (by rw [HNL.out]; congr 2; omega)
                  have HO6 : Hid (World.ownsRow wc w2.heap.size 56 2 u5 N (cellsE (way v ((k * n + (i + 1)) * 2)))) := Lib.hid (by rw [show (k * n + (i + 1)) * 2 = (k * n + i) * 2 + 2 by omega]; exact HO.out)
                  clear HNL HO
                  go_wp2_with fail
                  go_roundw
                  case rel => exact ⟨i + 1, N, by omega, by go_num, hN, HN6, HO6, HB⟩
                  case measure => simp [intOf] <;> omega
            · obtain rfl : n = i := by omega
              have e : (k * n + n) * 2 = (k + 1) * n * 2 := by rw [Nat.add_mul k 1, Nat.one_mul]
              rw [e] at HNL HO
              clear e hil hi
              go_wp2_with fail
              go_roundw
              case rel => exact ⟨k + 1, N, by omega, (by first | exact congrArg (Value.int .i64) HNXT.out | (rw [← HNXT.out]; rfl)), (by rw [HNX.out]), hN, HNL, HO, HB⟩
              case measure => have h9 := HNXT.out; first | (simp [intOf]; done) | (simp [intOf]; omega)
        · have HNX : Hid (decide ((k + 1) % 2 = 0) = true) := Lib.hid (decide_eq_true (by omega))
          have HRW0 : Hid (∀ i, i = rowW (17 + 4 * v) k i) := Lib.hid (fun i => by unfold rowW; rw [if_neg hpar])
          rw [decide_eq_false hpar]
          clear hpar
          go_wp2_with fail
          -- the rows of a pair of columns
          go_loopw [5, 8] (fun ov iv wr => ∃ (i N : Nat), i ≤ n ∧ iv = .int .i64 (i : Int) ∧ N ≤ 70000 ∧ Hid (N = (way v ((k * n + i) * 2)).length) ∧ Hid (wr.ownsRow w2.heap.size 56 2 ov N (cellsE (way v ((k * n + i) * 2)))) ∧ Hid (Below w2.heap.size w2 wr)) (fun _ iv _ => n - (intOf iv).toNat)
          case atStart => exact ⟨0, N, by omega, rfl, hN, HNL, HO, HB⟩
          case round =>
            clear HNL HO HB hN
            rename World => wi
            obtain ⟨i, N, hi, rfl, hN, HNL, HO, HB⟩ := hrel
            by_cases hil : i < n
            · have HRW := Lib.hid (HRW0.out i)
              go_wp2_with fail
              -- the two columns of row r: i the row's fact
              go_loopw [5, 10] (fun ov cv wr => ∃ (d N : Nat), d ≤ 2 ∧ cv = .int .i64 (((R : Nat) : Int) - (d : Int)) ∧ N ≤ 70000 ∧ Hid (N = (way v ((k * n + i) * 2 + d)).length) ∧ Hid (wr.ownsRow w2.heap.size 56 2 ov N (cellsE (way v ((k * n + i) * 2 + d)))) ∧ Hid (Below w2.heap.size w2 wr)) (fun _ cv _ => (intOf cv - ((R : Nat) : Int) + 2).toNat)
              case atStart => exact ⟨0, N, by omega, congrArg (Value.int .i64) (by omega), by assumption, HNL, HO, HB⟩
              case round =>
                clear HNL HO HB
                rename World => wc
                obtain ⟨d, N, hd, rfl, hN, HNL, HO, HB⟩ := hrel
                by_cases hdl : d < 2
                · obtain ⟨c, hc⟩ : ∃ c, c = R - d := ⟨_, rfl⟩
                  have e1 : ((R : Nat) : Int) - (d : Int) = (c : Int) := by omega
                  have hcn : c < n := by omega
                  have hcR : R ≤ c + 1 := by omega
                  obtain ⟨u, hu1, hu2⟩ := HROW.out i (by omega)
                  obtain ⟨gb, ho, cc, rfl, hc1, hc2, HBIT⟩ := row_at hu2 (by rw [HRL.out i (by omega)]; omega)
                  rw [HRL.out i (by omega)] at hu1 hc1 HBIT
                  have cR := cell_up hu1 HB.out
                  have cB := cell_up (HBIT.out c hcn) HB.out
                  rw [HGF.out i c (by omega) hcn] at cB
                  have HST : Hid (∀ g, givB v c i = g → way v ((k * n + i) * 2 + (d + 1)) = way v ((k * n + i) * 2 + d) ++ (if g = true then [] else [(i, c)])) := Lib.hid (fun g hg => by
                    have hn0 := HN.out
                    subst hn0
                    exact way_step v k i d i c g (by omega) hdl HRW.out (by rw [hc, HR.out]) hg)
                  have hbnd : N + 1 ≤ 70000 := by
                    have h9 := way_bound v ((k * n + i) * 2 + d)
                    rw [← HNL.out] at h9
                    have := HKN.out
                    omega
                  have e2 : (c : Int) - 1 = ((R : Nat) : Int) - ((d + 1 : Nat) : Int) := by omega
                  have HE2 := Lib.hid e2
                  clear hu1 hu2 hc e2
                  generalize hgb : givB v c i = gv at *
                  have hw := HST.out gv rfl
                  rw [e1]
                  clear e1 HST hgb
                  cases gv
                  · rw [if_neg (by decide)] at hw
                    have HW2 := Lib.hid hw
                    clear hw
                    go_wp2_with (with_reducible refine stop_at (o := ⟨some 54, _, _, _, _, _⟩) ?_)
                    refine Lib.hid ?_
                    have hszw := HB.out.size
                    refine list_app2 rfl _ _ 54 rfl w2.heap.size 56 i0 _ 16 Try.underlying54 hi0 hz0 hz1 hz2 rfl _ N _ rfl (HO.out.alloc _) wc.heap.size (.int .i64 (i : Nat)) (.int .i64 (c : Nat)) rfl (Blk.fresh _ _ _) rfl rfl (by unfold maxLen; omega) (by omega) (by simp; omega) ?_
                    intro v5 w5 ho5 hg5
                    have HB5 := Lib.hid (below_grown (HB.out.alloc hszw (.cells #[.int .i64 (i : Nat), .int .i64 (c : Nat)] 56)) hg5 (HO.out.alloc _) (by simp; omega))
                    have HN5 : Hid (N + 1 = (way v ((k * n + i) * 2 + (d + 1))).length) := Lib.hid (by rw [HW2.out, List.length_append, ← HNL.out]; rfl)
                    have HO5 : Hid (w5.ownsRow w2.heap.size 56 2 v5 (N + 1) (cellsE (way v ((k * n + i) * 2 + (d + 1))))) := Lib.hid (by rw [HW2.out, cellsE_snoc]; exact ho5)
                    clear ho5 hg5 HO HB HNL HW2 hszw cR cB
                    go_wp2_with fail
                    go_roundw
                    case rel => exact ⟨d + 1, N + 1, by omega, by first | rfl | exact congrArg (Value.int .i64) HE2.out, by omega, HN5, HO5, HB5⟩
                    case measure => simp [intOf] <;> omega
                  · rw [if_pos rfl, List.append_nil] at hw
                    rw [← hw] at HNL HO
                    clear hw
                    go_wp2_with fail
                    go_roundw
                    case rel => exact ⟨d + 1, N, by omega, by first | rfl | exact congrArg (Value.int .i64) HE2.out, by omega, HNL, HO, HB⟩
                    case measure => simp [intOf] <;> omega
                · obtain rfl : d = 2 := by omega
                  have HN6 : Hid (N = (way v ((k * n + (i + 1)) * 2)).length) := Lib.hid (by rw [HNL.out]; congr 2; omega)
                  have HO6 : Hid (World.ownsRow wc w2.heap.size 56 2 u5 N (cellsE (way v ((k * n + (i + 1)) * 2)))) := Lib.hid (by rw [show (k * n + (i + 1)) * 2 = (k * n + i) * 2 + 2 by omega]; exact HO.out)
                  clear HNL HO
                  go_wp2_with fail
                  go_roundw
                  case rel => exact ⟨i + 1, N, by omega, by go_num, hN, HN6, HO6, HB⟩
                  case measure => simp [intOf] <;> omega
            · obtain rfl : n = i := by omega
              have e : (k * n + n) * 2 = (k + 1) * n * 2 := by rw [Nat.add_mul k 1, Nat.one_mul]
              rw [e] at HNL HO
              clear e hil hi
              go_wp2_with fail
              go_roundw
              case rel => exact ⟨k + 1, N, by omega, (by first | exact congrArg (Value.int .i64) HNXT.out | (rw [← HNXT.out]; rfl)), (by rw [HNX.out]), hN, HNL, HO, HB⟩
              case measure => have h9 := HNXT.out; first | (simp [intOf]; done) | (simp [intOf]; omega)
    · obtain rfl : k = m := by omega
      have hh : headI n k = -1 := by unfold headI; rw [if_neg (by omega)]; omega
      rw [hh]
      clear hh
      go_wp2_with fail
      go_ret
      exact ⟨_, w2.heap.size, rfl, HB0.out.size, by rw [HWL.out, ← HNL.out]; exact HO.out, HB0.out.trans (HB.out.mono HB0.out.size)⟩
end Go.Proofs.Ytcldipbboidjbaa
