/-
  WALKS: the value of widths.
-/
import Derived.Test.YtknipefcihkofaaRv1
namespace Go.Proofs.Ytknipefcihkofaa
open Go.RowKit

/-- Natural numbers as ints. -/
def nv (xs : List Nat) : List Value := xs.map fun n : Nat => Value.int .i64 (n : Int)
theorem nv_len (xs : List Nat) : (nv xs).length = xs.length := by simp [nv]
theorem nv_at (xs : List Nat) (i : Nat) (h : i < xs.length) : (nv xs)[i]? = some (.int .i64 ((xs.getD i 0 : Nat) : Int)) := by
  simp [nv, h]
theorem nv_one (xs : List Nat) : ∀ u ∈ nv xs, u.oneCell' = true := fun u hu => by
  simp only [nv, List.mem_map] at hu
  obtain ⟨x, _, rfl⟩ := hu
  rfl
/-- Those in which one is too wide, by t ways of its width. -/
def lessS (r : Nat) : Nat → Nat
  | 0 => 0
  | t + 1 => lessS r t + ch (r - 2 + t) (r - 2)
/-- How many lists of r widths with the sum m there are, as the package counts them. -/
def sv (most m r : Nat) : Int := if 1 < r then (ch (m - 1) (r - 1) : Int) - (lessS r (m - (r - 1) - most) : Int) * (r : Int) else (ch (m - 1) (r - 1) : Int) - (if most < m then 1 else 0)
/-- Those of the first width below 1 + j. -/
def vin (most n r : Nat) : Nat → Int
  | 0 => 0
  | j + 1 => vin most n r j + sv most (n - (j + 1)) r
/-- The value of widths, whose sum is n. -/
def val (most : Nat) : Nat → List Nat → Int
  | _, [] => 0
  | n, w :: rest => if rest = [] then 0 else vin most n rest.length (w - 1) + val most (n - w) rest
theorem val_cons (most n w : Nat) (rest : List Nat) (h : rest ≠ []) : val most n (w :: rest) = vin most n rest.length (w - 1) + val most (n - w) rest := by
  show (if rest = [] then 0 else vin most n rest.length (w - 1) + val most (n - w) rest) = _
  rw [if_neg h]
theorem lessS_le (r t : Nat) (hr : r ≤ 6) (ht : r - 2 + t ≤ 60) : lessS r t ≤ 12960000 * t := by
  induction t with
  | zero => exact Nat.le_refl _
  | succ t ih =>
    unfold lessS
    have := ch_bound (r - 2 + t) (r - 2) (by omega) (by omega)
    have := ih (by omega)
    omega

theorem sv_bound (most m r : Nat) (hr : r ≤ 5) (hm : m ≤ 54) : -4200000000 ≤ sv most m r ∧ sv most m r ≤ 12960000 := by
  unfold sv
  have h1 := ch_bound (m - 1) (r - 1) (by omega) (by omega)
  split
  · rcases Nat.lt_or_ge (r - 1 + most) m with h | h
    · have h2 := lessS_le r (m - (r - 1) - most) (by omega) (by omega)
      have h3 : lessS r (m - (r - 1) - most) * r ≤ 12960000 * 54 * 6 := Nat.mul_le_mul (by omega) (by omega)
      have h4 : ((lessS r (m - (r - 1) - most) : Nat) : Int) * (r : Int) = ((lessS r (m - (r - 1) - most) * r : Nat) : Int) := by simp
      rw [h4]; omega
    · have h5 : m - (r - 1) - most = 0 := by omega
      rw [h5]; simp [lessS]; omega
  · split <;> omega
theorem sum_ge (l : List Nat) (h : ∀ x ∈ l, 1 ≤ x) : l.length ≤ l.sum := by
  induction l with
  | nil => exact Nat.le_refl _
  | cons a r ih =>
    have h1 := h a (List.mem_cons_self ..)
    have h2 := ih (fun x hx => h x (List.mem_cons_of_mem _ hx))
    rw [List.length_cons, List.sum_cons]; omega
set_option maxHeartbeats 4000000 in
set_option maxRecDepth 100000 in
theorem rss_any (v : Value) (l : List Nat) (most : Nat) (w : World) (hv : Rd w w.heap.size v (nv l)) (hl : l.length ≤ 6) (hl1 : 1 ≤ l.length) (hw : ∀ x ∈ l, 1 ≤ x ∧ x ≤ 9) (hm : most ≤ 9) :
    Calls Try.prog 20 #[v, .int .i64 most, .bool false] w fun e w' => e = .returned (.int .i64 (val most l.sum l)) ∧ w' = w := by
  obtain ⟨A, cap, rfl, h1, h2, h3⟩ := hv
  rw [nv_len] at *
  unfold maxLen at h2
  obtain ⟨b, o, rfl, hb, hcell⟩ := h3 (by omega)
  have hcc : ∀ j, j < l.length → w.cell? ⟨b, o + j, none⟩ = some (.int .i64 ((l.getD j 0 : Nat) : Int)) := fun j hj => hcell j _ (nv_at l j hj)
  clear hcell h3
  have HC := Lib.hid hcc; clear hcc
  have HW := Lib.hid hw; clear hw
  go_enter Try.func20, Try.ntmps20
  go_wp2
  go_loop [7, 20] (fun n i => ∃ k s : Nat, k ≤ l.length ∧ s ≤ 9 * k ∧ i = .int .i64 k ∧ n = .int .i64 s ∧ Hid (s = (l.take k).sum)) (fun _ i => l.length - (intOf i).toNat)
  case atStart => exact ⟨0, 0, by omega, by omega, rfl, rfl, Lib.hid rfl⟩
  case round =>
    obtain ⟨k, s, hk, hs, rfl, rfl, HS⟩ := hrel
    by_cases hlt : k < l.length
    · have c1 := HC.out k hlt
      have hgd : l.getD k 0 = l[k] := by rw [List.getD, List.getElem?_eq_getElem hlt]; rfl
      have hx := HW.out _ (List.getElem_mem hlt)
      rw [hgd] at c1
      have HS2 : Hid (s + l[k] = (l.take (k + 1)).sum) := Lib.hid (by rw [List.take_succ_eq_append_getElem hlt, List.sum_append, HS.out]; simp)
      clear hgd
      generalize l[k] = y at *
      go_wp2
      go_round
      case rel => exact ⟨k + 1, s + y, by omega, by omega, by go_num, by go_num, HS2⟩
      case measure => simp [intOf]; omega
    · obtain rfl : k = l.length := by omega
      have HT : Hid (s = l.sum) := Lib.hid (by rw [HS.out, List.take_length])
      go_wp2
      go_loop [7, 10, 11, 13] (fun n z x i => ∃ (k n' : Nat) (z' x' : Int), k + 1 ≤ l.length ∧ n' ≤ 54 ∧ i = .int .i64 k ∧ n = .int .i64 n' ∧ z = .int .i64 z' ∧ x = .int .u64 x' ∧ -100000000000 * (k : Int) ≤ z' ∧ z' ≤ 100000000000 * (k : Int) ∧ Hid (n' = (l.drop k).sum) ∧ Hid (z' + val most n' (l.drop k) = val most l.sum l)) (fun _ _ _ i => l.length - (intOf i).toNat)
      case atStart => exact ⟨0, s, 0, 0, by omega, by omega, rfl, rfl, rfl, rfl, by omega, by omega, Lib.hid HT.out, Lib.hid (by rw [HT.out]; simp)⟩
      case round =>
        obtain ⟨k, n, z, x, hk, hn, rfl, rfl, rfl, rfl, hz1, hz2, HN, HV⟩ := hrel
        clear HS HT hs
        by_cases hlt : k + 1 < l.length
        · obtain ⟨r, hr⟩ : ∃ r, l.length = k + 1 + r := ⟨l.length - (k + 1), by omega⟩
          have hkl : k < l.length := by omega
          have c1 := HC.out k hkl
          have hgd : l.getD k 0 = l[k] := by rw [List.getD, List.getElem?_eq_getElem hkl]; rfl
          have hx := HW.out _ (List.getElem_mem hkl)
          rw [hgd] at c1
          have hdrop : l.drop k = l[k] :: l.drop (k + 1) := List.drop_eq_getElem_cons hkl
          have hrl : (l.drop (k + 1)).length = r := by rw [List.length_drop]; omega
          have hne : l.drop (k + 1) ≠ [] := fun h => by rw [h] at hrl; simp at hrl; omega
          have hge := sum_ge (l.drop (k + 1)) (fun x hx => (HW.out x (List.mem_of_mem_drop hx)).1)
          have hns : n = l[k] + (l.drop (k + 1)).sum := by rw [HN.out, hdrop, List.sum_cons]
          have hval : val most n (l.drop k) = vin most n r (l[k] - 1) + val most (n - l[k]) (l.drop (k + 1)) := by rw [hdrop, val_cons _ _ _ _ hne, hrl]
          rw [hval] at HV
          rw [hrl] at hge
          have HR : Hid (n - l[k] = (l.drop (k + 1)).sum) := Lib.hid (by omega)
          have hnr : l[k] + r ≤ n := by omega
          clear hgd hdrop hrl hne hval hns hge
          generalize l[k] = y at *
          obtain ⟨tl, htl⟩ : ∃ tl, val most (n - y) (l.drop (k + 1)) = tl := ⟨_, rfl⟩
          rw [htl] at HV
          have HTL := Lib.hid htl.symm; clear htl
          have hr6 : r ≤ 5 := by omega
          have hr1 : 1 ≤ r := by omega
          have hrle : k + 1 + r ≤ l.length := by omega
          have hrge : l.length ≤ k + 1 + r := by omega
          clear hr
          go_wp2
          go_loop [10, 11, 14] (fun zz xx ee => ∃ (j : Nat) (z' x' : Int), j + 1 ≤ y ∧ ee = .int .i64 ((j + 1 : Nat) : Int) ∧ zz = .int .i64 z' ∧ xx = .int .u64 x' ∧ -100000000000 * (k : Int) - 4200000000 * (j : Int) ≤ z' ∧ z' ≤ 100000000000 * (k : Int) + 4200000000 * (j : Int) ∧ Hid (z' = z + vin most n r j)) (fun _ _ ee => y - (intOf ee).toNat)
          case atStart => exact ⟨0, z, _, by omega, rfl, rfl, rfl, by omega, by omega, Lib.hid (by simp [vin])⟩
          case round =>
            obtain ⟨j, z', x', hj, rfl, rfl, rfl, hz1', hz2', HZ⟩ := hrel
            by_cases hjy : j + 1 < y
            · have hsvb := sv_bound most (n - (j + 1)) r hr6 (by omega)
              have HV1 : Hid (vin most n r (j + 1) = vin most n r j + sv most (n - (j + 1)) r) := Lib.hid rfl
              obtain ⟨m, hm'⟩ : ∃ m, n = j + 1 + m := ⟨n - (j + 1), by omega⟩
              have hmr : r + 1 ≤ m := by omega
              have hm54 : m ≤ 54 := by omega
              have hnm : n - (j + 1) = m := by omega
              rw [hnm] at hsvb HV1
              have f1 : (n : Int) - ((j : Int) + 1) - 1 = ((m - 1 : Nat) : Int) := by omega
              have f2 : (l.length : Int) - (k : Int) - 2 = ((r - 1 : Nat) : Int) := by omega
              have hnle : j + 1 + m ≤ n := by omega
              have hnge : n ≤ j + 1 + m := by omega
              clear hm' hnm
              have HF := Lib.hid (And.intro f1 f2); clear f1 f2
              go_wp2_with fail
              rw [HF.out.1, HF.out.2]
              refine (combins_any (m - 1) (r - 1) w (by omega) (by omega) (by omega)).mono ?_
              rintro e w1 ⟨rfl, rfl⟩
              have hch := ch_bound (m - 1) (r - 1) (by omega) (by omega)
              have hk3 : (0 : Int) ≤ (k : Int) := by omega
              by_cases hr2 : 1 < r
              · have HSV : Hid (sv most m r = (ch (m - 1) (r - 1) : Int) - (lessS r (m - (r - 1) - most) : Int) * (r : Int)) := Lib.hid (by unfold sv; rw [if_pos hr2])
                generalize ch (m - 1) (r - 1) = c at *
                have hr3 : decide ((1 : Int) < (l.length : Int) - (k : Int) - 1) = true := by simp; omega
                go_wp2
                go_loop [16, 17] (fun ll mm => ∃ (t s : Nat), t ≤ m - (r - 1) - most ∧ s ≤ 12960000 * t ∧ ll = .int .i64 s ∧ mm = .int .i64 ((m - (r - 1) - t : Nat) : Int) ∧ Hid (s = lessS r t)) (fun _ mm => (intOf mm).toNat)
                case atStart => exact ⟨0, 0, by omega, by omega, rfl, by congr 1; omega, Lib.hid rfl⟩
                case round =>
                  obtain ⟨t, s, ht, hs, rfl, rfl, HS⟩ := hrel
                  by_cases htm : t < m - (r - 1) - most
                  · have g1 : (n : Int) - ((j : Int) + 1) - ((m - (r - 1) - t : Nat) : Int) - 1 = ((r - 2 + t : Nat) : Int) := by omega
                    have g2 : (l.length : Int) - (k : Int) - 3 = ((r - 2 : Nat) : Int) := by omega
                    have HG := Lib.hid (And.intro g1 g2); clear g1 g2
                    have hxt : (most : Int) < ((m - (r - 1) - t : Nat) : Int) := by omega
                    have hxt2 : ((m - (r - 1) - t : Nat) : Int) ≤ 54 := by omega
                    have HS2 : Hid (s + ch (r - 2 + t) (r - 2) = lessS r (t + 1)) := Lib.hid (by rw [HS.out]; rfl)
                    have hcb := ch_bound (r - 2 + t) (r - 2) (by omega) (by omega)
                    go_wp2_with fail
                    rw [HG.out.1, HG.out.2]
                    refine (combins_any (r - 2 + t) (r - 2) w1 (by omega) (by omega) (by omega)).mono ?_
                    rintro e w2 ⟨rfl, rfl⟩
                    generalize ch (r - 2 + t) (r - 2) = d at *
                    go_wp2
                    go_round
                    case rel => exact ⟨t + 1, s + d, by omega, by omega, by go_num, by congr 1; omega, HS2⟩
                    case measure => simp [intOf]; omega
                  · obtain rfl : t = m - (r - 1) - most := by omega
                    have hxt : ((m - (r - 1) - (m - (r - 1) - most) : Nat) : Int) ≤ (most : Int) := by omega
                    have hxt2 : (0 : Int) ≤ ((m - (r - 1) - (m - (r - 1) - most) : Nat) : Int) := by omega
                    have g3 : (l.length : Int) - 1 - (k : Int) = (r : Int) := by omega
                    have g4 : (s : Int) * ((l.length : Int) - 1 - (k : Int)) = ((s * r : Nat) : Int) := by rw [g3]; simp
                    have hsr : s * r ≤ 12960000 * 54 * 6 := Nat.mul_le_mul (by omega) (by omega)
                    have HSV2 : Hid (sv most m r = (c : Int) - ((s * r : Nat) : Int)) := Lib.hid (by rw [HSV.out, ← HS.out]; simp)
                    rw [HSV2.out] at hsvb
                    generalize s * r = sr at *
                    have HZ2 : Hid (z' + ((c : Int) - (sr : Int)) = z + vin most n r (j + 1)) := Lib.hid (by rw [HV1.out, HSV2.out, HZ.out]; omega)
                    clear g3 ht hs
                    go_wp2
                    go_round
                    case rel => exact ⟨j + 1, z' + ((c : Int) - (sr : Int)), _, by omega, by go_num, by first | rfl | go_num, rfl, by omega, by omega, HZ2⟩
                    case measure => simp [intOf]; omega
              · obtain rfl : r = 1 := by omega
                have HSV : Hid (sv most m 1 = (ch (m - 1) 0 : Int) - (if most < m then 1 else 0)) := Lib.hid (by unfold sv; rw [if_neg (by decide)])
                have hc0 : ch (m - 1) (1 - 1) = 1 := rfl
                rw [hc0] at hch ⊢
                have hc1 : ch (m - 1) 0 = 1 := rfl
                rw [hc1] at HSV
                by_cases hmm : most < m
                · rw [if_pos hmm] at HSV
                  have HZ2 : Hid (z' + (1 - 1) = z + vin most n 1 (j + 1)) := Lib.hid (by rw [HV1.out, HSV.out, HZ.out]; omega)
                  go_wp2
                  go_round
                  case rel => exact ⟨j + 1, z' + (1 - 1), _, by omega, by go_num, by first | rfl | go_num, rfl, by omega, by omega, HZ2⟩
                  case measure => simp [intOf]; omega
                · rw [if_neg hmm] at HSV
                  have HZ2 : Hid (z' + 1 = z + vin most n 1 (j + 1)) := Lib.hid (by rw [HV1.out, HSV.out, HZ.out]; omega)
                  go_wp2
                  go_round
                  case rel => exact ⟨j + 1, z' + 1, _, by omega, by go_num, by first | rfl | go_num, rfl, by omega, by omega, HZ2⟩
                  case measure => simp [intOf]; omega
            · obtain rfl : y = j + 1 := by omega
              have HV2 : Hid (z' + val most (n - (j + 1)) (l.drop (k + 1)) = val most l.sum l) := Lib.hid (by rw [← HV.out, HZ.out, HTL.out]; simp; omega)
              have HN2 : Hid (n - (j + 1) = (l.drop (k + 1)).sum) := HR
              obtain ⟨m, hm'⟩ : ∃ m, n - (j + 1) = m := ⟨_, rfl⟩
              have hnm : (n : Int) - ((j : Int) + 1) = (m : Int) := by omega
              rw [hm'] at HV2 HN2
              have hm54 : m ≤ 54 := by omega
              clear hm'
              go_wp2
              go_round
              case rel => exact ⟨k + 1, m, z', x', by omega, hm54, by go_num, by first | rfl | go_num, rfl, rfl, by omega, by omega, HN2, HV2⟩
              case measure => simp [intOf]; omega
        · have HF : Hid (z = val most l.sum l) := Lib.hid (by
            rw [← HV.out]
            have h1 : l.drop k = [l[k]'(by omega)] := by rw [List.drop_eq_getElem_cons (by omega), List.drop_eq_nil_of_le (by omega)]
            rw [h1]; simp [val])
          have hlt2 : ¬ (k : Int) < (l.length : Int) - 1 := by omega
          go_wp2
          go_ret
          exact ⟨ret_int (by rw [HF.out]), rfl⟩
end Go.Proofs.Ytknipefcihkofaa
