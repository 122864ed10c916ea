/-
  WALKS: the bound between dark and light that a histogram tells.
-/
import Derived.Test.YtimfaplnhlnjlaaBase
namespace Go.Proofs.Ytimfaplnhlnjlaa
open Go.RowKit

/-- Natural numbers as ints. -/
def nv (xs : List Nat) : List Value := xs.map fun n : Nat => Value.int .i64 (n : Int)
theorem nv_len (xs : List Nat) : (nv xs).length = xs.length := by simp [nv]
theorem nv_at (xs : List Nat) (i : Nat) (h : i < xs.length) : (nv xs)[i]? = some (.int .i64 ((xs.getD i 0 : Nat) : Int)) := by
  simp [nv, h]
theorem nv_one (xs : List Nat) : ∀ u ∈ nv xs, u.oneCell' = true := fun u hu => by
  simp only [nv, List.mem_map] at hu
  obtain ⟨x, _, rfl⟩ := hu
  rfl
theorem newException_any (s : ByteArray) (v : Value) (w : World) : Calls Try.prog 41 #[.string s, v] w fun e w' => e = .returned (.agg #[.string s, .nilIface]) ∧ Below w.heap.size w w' := by
  go_enter Try.func41, Try.ntmps41
  go_wp2
  go_returns
  exact ⟨rfl, by go_grown⟩
theorem notFound_any (v : Value) (w : World) : Calls Try.prog 38 #[v] w fun e w' => (∃ t x, e = .returned (.iface t x)) ∧ Below w.heap.size w w' := by
  go_enter Try.func38, Try.ntmps38
  go_wp2_with fail
  refine (newException_any _ _ _).mono ?_
  rintro e w1 ⟨rfl, hb⟩
  go_wp2
  go_ret
  exact ⟨⟨_, _, rfl⟩, hb⟩
theorem mul_bound (a b A B : Int) (ha0 : 0 ≤ a) (ha : a ≤ A) (hb0 : 0 ≤ b) (hb : b ≤ B) : 0 ≤ a * b ∧ a * b ≤ A * B :=
  ⟨Int.mul_nonneg ha0 hb0, Int.mul_le_mul ha hb hb0 (by omega)⟩

set_option maxHeartbeats 4000000 in
/-- (*GlobalHistogramBinarizer).estimateBlackPoint, of 32 counts. -/
theorem estimate_any (p v : Value) (cs : List Nat) (w : World) (hv : Rd w w.heap.size v (nv cs)) (hl : cs.length = 32) (hc : ∀ i, cs.getD i 0 < 65536) :
    Calls Try.prog 29 #[p, v] w fun e w' => Below w.heap.size w w' ∧ ∃ f s : Nat, f < 32 ∧ s < 32 ∧ (∀ x, x < 32 → cs.getD x 0 ≤ cs.getD f 0) ∧
      ((∀ x, x < 32 → x ≠ f → cs.getD x 0 = 0) ∨ (0 < cs.getD s 0 ∧ s ≠ f)) ∧
      ((max f s ≤ min f s + 2 ∧ ∃ t x, e = .returned (.tuple #[.int .i64 0, .iface t x])) ∨ (∃ b : Nat, min f s < b ∧ b < max f s ∧ e = .returned (.tuple #[.int .i64 ((8 * b : Nat) : Int), .nilIface]))) := by
  obtain ⟨A, cap, rfl, h1, h2, h3⟩ := hv
  rw [nv_len] at *
  rw [hl] at h1 h3 ⊢
  unfold maxLen at h2
  obtain ⟨b, o, rfl, hb, hcell⟩ := h3 (by decide)
  have hcc : ∀ j, j < 32 → w.cell? ⟨b, o + j, none⟩ = some (.int .i64 ((cs.getD j 0 : Nat) : Int)) := fun j hj => hcell j _ (nv_at cs j (by omega))
  clear hcell h3
  have HC := Lib.hid hcc; clear hcc
  have HL := Lib.hid hc; clear hc
  generalize cs.getD = c0 at *
  obtain ⟨c, hcdef⟩ : ∃ c : Nat → Nat, ∀ x, c0 x 0 = c x := ⟨fun x => c0 x 0, fun _ => rfl⟩
  simp only [hcdef] at *
  clear hcdef c0
  clear hl
  go_enter Try.func29, Try.ntmps29
  go_wp2
  go_loop [7, 8, 9, 10] (fun m f z x => ∃ (k M F : Nat), k ≤ 32 ∧ F < 32 ∧ M < 65536 ∧ x = .int .i64 k ∧ m = .int .i64 M ∧ z = .int .i64 M ∧ f = .int .i64 F ∧ Hid (∀ j, j < k → c j ≤ M) ∧ Hid (M ≤ c F)) (fun _ _ _ x => 32 - (intOf x).toNat)
  case atStart => exact ⟨0, 0, 0, by omega, by omega, by omega, rfl, rfl, rfl, rfl, Lib.hid (fun j hj => absurd hj (by omega)), Lib.hid (Nat.zero_le _)⟩
  case round =>
    obtain ⟨k, M, F, hk, hF, hM, rfl, rfl, rfl, rfl, HJ, HF⟩ := hrel
    by_cases hlt : k < 32
    · have c1 := HC.out k hlt
      have hc1 := HL.out k
      obtain ⟨y, hy⟩ : ∃ y, c k = y := ⟨_, rfl⟩
      rw [hy] at c1 hc1
      have HY := Lib.hid hy; clear hy
      have HJ2 : ∀ Z, M ≤ Z → y ≤ Z → Hid (∀ j, j < k + 1 → c j ≤ Z) := fun Z h1 h2 => Lib.hid (fun j hj => by
        rcases Nat.lt_or_ge j k with h | h
        · have := HJ.out j h; omega
        · obtain rfl : j = k := by omega
          rw [HY.out]; exact h2)
      by_cases hgt : M < y
      · go_wp2
        go_round
        case rel => exact ⟨k + 1, y, k, by omega, hlt, hc1, by go_num, rfl, rfl, rfl, HJ2 y (by omega) (by omega), Lib.hid (by rw [HY.out]; exact Nat.le_refl _)⟩
        case measure => simp [intOf]; omega
      · go_wp2
        go_round
        case rel => exact ⟨k + 1, M, F, by omega, hF, hM, by go_num, rfl, rfl, rfl, HJ2 M (Nat.le_refl _) (by omega), HF⟩
        case measure => simp [intOf]; omega
    · obtain rfl : k = 32 := by omega
      go_wp2
      go_loop [11, 12, 13] (fun s z x => ∃ (k S : Nat) (q : Int), k ≤ 32 ∧ S < 32 ∧ x = .int .i64 k ∧ s = .int .i64 S ∧ z = .int .i64 q ∧ 0 ≤ q ∧ Hid (∀ j, j < k → j ≠ F → 0 < c j → 0 < q) ∧ Hid (0 < q → 0 < c S ∧ S ≠ F)) (fun _ _ x => 32 - (intOf x).toNat)
      case atStart => exact ⟨0, 0, 0, by omega, by omega, rfl, rfl, rfl, by omega, Lib.hid (fun j hj => absurd hj (by omega)), Lib.hid (fun h => absurd h (by omega))⟩
      case round =>
        obtain ⟨k, S, q, hk, hS, rfl, rfl, rfl, hq, HQ, HS⟩ := hrel
        by_cases hlt : k < 32
        · have c1 := HC.out k hlt
          have hc1 := HL.out k
          obtain ⟨y, hy⟩ : ∃ y, c k = y := ⟨_, rfl⟩
          rw [hy] at c1 hc1
          have HY := Lib.hid hy; clear hy
          obtain ⟨d, hd⟩ : ∃ d : Int, (k : Int) - (F : Int) = d := ⟨_, rfl⟩
          obtain ⟨p1, hp1⟩ : ∃ p1 : Int, (y : Int) * d = p1 := ⟨_, rfl⟩
          obtain ⟨p2, hp2⟩ : ∃ p2 : Int, p1 * d = p2 := ⟨_, rfl⟩
          have hb1 : -2031585 ≤ p1 ∧ p1 ≤ 2031585 := by
            rw [← hp1]
            rcases Int.le_total 0 d with h | h
            · have := mul_bound y d 65535 31 (by omega) (by omega) h (by omega); omega
            · have := mul_bound y (-d) 65535 31 (by omega) (by omega) (by omega) (by omega)
              rw [Int.mul_neg] at this; omega
          have hdd : p2 = (y : Int) * (d * d) := by rw [← hp2, ← hp1, Int.mul_assoc]
          have hd2 : 0 ≤ d * d ∧ d * d ≤ 961 := by
            rcases Int.le_total 0 d with h | h
            · exact mul_bound d d 31 31 h (by omega) h (by omega)
            · have := mul_bound (-d) (-d) 31 31 (by omega) (by omega) (by omega) (by omega)
              rw [Int.neg_mul_neg] at this; exact this
          have hb2 : 0 ≤ p2 ∧ p2 ≤ 62979135 := by
            rw [hdd]; exact mul_bound y (d * d) 65535 961 (by omega) (by omega) hd2.1 hd2.2
          have hpos : (k ≠ F → 0 < c k → 0 < p2) ∧ (0 < p2 → 0 < c k ∧ k ≠ F) := by
            rw [HY.out]
            refine ⟨fun h1 h2 => ?_, fun h => ?_⟩
            · rw [hdd]
              have : d ≠ 0 := by omega
              have h3 : 0 < d * d := by
                rcases Int.lt_or_gt_of_ne this with h | h
                · exact Int.mul_pos_of_neg_of_neg h h
                · exact Int.mul_pos h h
              exact Int.mul_pos (by omega) h3
            · rw [hdd] at h
              refine ⟨?_, fun h1 => ?_⟩
              · rcases Nat.eq_zero_or_pos y with h0 | h0
                · subst h0; simp at h
                · exact h0
              · have : d = 0 := by omega
                rw [this] at h; simp at h
          have HP := Lib.hid hpos; clear hpos hdd hd2
          obtain ⟨hb11, hb12⟩ := hb1
          obtain ⟨hb21, hb22⟩ := hb2
          have HQ2 : ∀ Z : Int, q ≤ Z → p2 ≤ Z → Hid (∀ j, j < k + 1 → j ≠ F → 0 < c j → 0 < Z) := fun Z h1 h2 => Lib.hid (fun j hj h3 h4 => by
            rcases Nat.lt_or_ge j k with h | h
            · have := HQ.out j h h3 h4; omega
            · obtain rfl : j = k := by omega
              have := HP.out.1 h3 h4; omega)
          by_cases hgt : q < p2
          · go_wp2
            go_round
            case rel => exact ⟨k + 1, k, p2, by omega, hlt, by go_num, rfl, rfl, hb21, HQ2 p2 (by omega) (by omega), Lib.hid HP.out.2⟩
            case measure => simp [intOf]; omega
          · go_wp2
            go_round
            case rel => exact ⟨k + 1, S, q, by omega, hS, by go_num, rfl, rfl, hq, HQ2 q (by omega) (by omega), HS⟩
            case measure => simp [intOf]; omega
        · obtain rfl : k = 32 := by omega
          have HR : Hid ((∀ x, x < 32 → c x ≤ c F) ∧ ((∀ x, x < 32 → x ≠ F → c x = 0) ∨ (0 < c S ∧ S ≠ F))) := Lib.hid ⟨fun x hx => Nat.le_trans (HJ.out x hx) HF.out, by
            rcases Int.lt_or_le 0 q with h | h
            · exact .inr (HS.out h)
            · refine .inl (fun x hx hxf => ?_)
              rcases Nat.eq_zero_or_pos (c x) with h0 | h0
              · exact h0
              · have := HQ.out x hx hxf h0; omega⟩
          clear HQ HS hq
          by_cases hsw : S < F
          · by_cases hnear : F ≤ S + 2
            · go_wp2_with fail
              refine (notFound_any _ _).mono ?_
              rintro e w1 ⟨⟨t1, x1, rfl⟩, hb1⟩
              go_wp2
              go_ret2
              exact ⟨hb1, F, S, hF, hS, HR.out.1, HR.out.2, .inl ⟨by omega, _, _, rfl⟩⟩
            · have hbest : ((F : Int) - 1) = ((F - 1 : Nat) : Int) := by omega
              go_wp2
              go_loop [16, 17, 18] (fun bb z x => ∃ (k B : Nat) (q : Int), S ≤ k ∧ k < F ∧ S < B ∧ B < F ∧ bb = .int .i64 B ∧ x = .int .i64 k ∧ z = .int .i64 q ∧ -1 ≤ q ∧ q ≤ 2000000000) (fun _ _ x => (intOf x).toNat)
              case atStart => exact ⟨F - 1, F - 1, -1, by omega, by omega, by omega, by omega, by first | rfl | go_num, by first | rfl | go_num, rfl, by omega, by omega⟩
              case round =>
                obtain ⟨k, B, q, hk1, hk2, hB1, hB2, rfl, rfl, rfl, hq1, hq2⟩ := hrel
                by_cases hlt : S < k
                · have c1 := HC.out k (by omega)
                  have hc1 := HL.out k
                  have hj1 := HJ.out k (by omega)
                  obtain ⟨y, hy⟩ : ∃ y, c k = y := ⟨_, rfl⟩
                  rw [hy] at c1 hc1 hj1
                  clear hy
                  obtain ⟨p1, hp1⟩ : ∃ p1 : Int, ((k : Int) - (S : Int)) * ((k : Int) - (S : Int)) = p1 := ⟨_, rfl⟩
                  obtain ⟨p2, hp2⟩ : ∃ p2 : Int, p1 * ((F : Int) - (k : Int)) = p2 := ⟨_, rfl⟩
                  obtain ⟨p3, hp3⟩ : ∃ p3 : Int, p2 * ((M : Int) - (y : Int)) = p3 := ⟨_, rfl⟩
                  have hb1 : 0 ≤ p1 ∧ p1 ≤ 961 := by rw [← hp1]; exact mul_bound _ _ 31 31 (by omega) (by omega) (by omega) (by omega)
                  have hb2 : 0 ≤ p2 ∧ p2 ≤ 29791 := by rw [← hp2]; exact mul_bound _ _ 961 31 (by omega) (by omega) (by omega) (by omega)
                  have hb3 : 0 ≤ p3 ∧ p3 ≤ 1952353185 := by rw [← hp3]; exact mul_bound _ _ 29791 65535 (by omega) (by omega) (by omega) (by omega)
                  obtain ⟨hb11, hb12⟩ := hb1
                  obtain ⟨hb21, hb22⟩ := hb2
                  obtain ⟨hb31, hb32⟩ := hb3
                  have hkm : ((k : Int) - 1) = ((k - 1 : Nat) : Int) := by omega
                  by_cases hgt : q < p3
                  · go_wp2
                    go_round
                    case rel => exact ⟨k - 1, k, p3, by omega, by omega, by omega, by omega, rfl, by first | rfl | go_num, rfl, by omega, by omega⟩
                    case measure => simp [intOf]; omega
                  · go_wp2
                    go_round
                    case rel => exact ⟨k - 1, B, q, by omega, by omega, by omega, by omega, rfl, by first | rfl | go_num, rfl, by omega, by omega⟩
                    case measure => simp [intOf]; omega
                · go_wp2
                  go_ret2
                  exact ⟨brf w, F, hF, S, hS, HR.out.1, HR.out.2, .inr ⟨B, by omega, by omega, by simp; omega⟩⟩
          · by_cases hnear : S ≤ F + 2
            · go_wp2_with fail
              refine (notFound_any _ _).mono ?_
              rintro e w1 ⟨⟨t1, x1, rfl⟩, hb1⟩
              go_wp2
              go_ret2
              exact ⟨hb1, F, S, hF, hS, HR.out.1, HR.out.2, .inl ⟨by omega, _, _, rfl⟩⟩
            · have hbest : ((S : Int) - 1) = ((S - 1 : Nat) : Int) := by omega
              go_wp2
              go_loop [16, 17, 18] (fun bb z x => ∃ (k B : Nat) (q : Int), F ≤ k ∧ k < S ∧ F < B ∧ B < S ∧ bb = .int .i64 B ∧ x = .int .i64 k ∧ z = .int .i64 q ∧ -1 ≤ q ∧ q ≤ 2000000000) (fun _ _ x => (intOf x).toNat)
              case atStart => exact ⟨S - 1, S - 1, -1, by omega, by omega, by omega, by omega, by first | rfl | go_num, by first | rfl | go_num, rfl, by omega, by omega⟩
              case round =>
                obtain ⟨k, B, q, hk1, hk2, hB1, hB2, rfl, rfl, rfl, hq1, hq2⟩ := hrel
                by_cases hlt : F < k
                · have c1 := HC.out k (by omega)
                  have hc1 := HL.out k
                  have hj1 := HJ.out k (by omega)
                  obtain ⟨y, hy⟩ : ∃ y, c k = y := ⟨_, rfl⟩
                  rw [hy] at c1 hc1 hj1
                  clear hy
                  obtain ⟨p1, hp1⟩ : ∃ p1 : Int, ((k : Int) - (F : Int)) * ((k : Int) - (F : Int)) = p1 := ⟨_, rfl⟩
                  obtain ⟨p2, hp2⟩ : ∃ p2 : Int, p1 * ((S : Int) - (k : Int)) = p2 := ⟨_, rfl⟩
                  obtain ⟨p3, hp3⟩ : ∃ p3 : Int, p2 * ((M : Int) - (y : Int)) = p3 := ⟨_, rfl⟩
                  have hb1 : 0 ≤ p1 ∧ p1 ≤ 961 := by rw [← hp1]; exact mul_bound _ _ 31 31 (by omega) (by omega) (by omega) (by omega)
                  have hb2 : 0 ≤ p2 ∧ p2 ≤ 29791 := by rw [← hp2]; exact mul_bound _ _ 961 31 (by omega) (by omega) (by omega) (by omega)
                  have hb3 : 0 ≤ p3 ∧ p3 ≤ 1952353185 := by rw [← hp3]; exact mul_bound _ _ 29791 65535 (by omega) (by omega) (by omega) (by omega)
                  obtain ⟨hb11, hb12⟩ := hb1
                  obtain ⟨hb21, hb22⟩ := hb2
                  obtain ⟨hb31, hb32⟩ := hb3
                  have hkm : ((k : Int) - 1) = ((k - 1 : Nat) : Int) := by omega
                  by_cases hgt : q < p3
                  · go_wp2
                    go_round
                    case rel => exact ⟨k - 1, k, p3, by omega, by omega, by omega, by omega, rfl, by first | rfl | go_num, rfl, by omega, by omega⟩
                    case measure => simp [intOf]; omega
                  · go_wp2
                    go_round
                    case rel => exact ⟨k - 1, B, q, by omega, by omega, by omega, by omega, rfl, by first | rfl | go_num, rfl, by omega, by omega⟩
                    case measure => simp [intOf]; omega
                · go_wp2
                  go_ret2
                  exact ⟨brf w, F, hF, S, hS, HR.out.1, HR.out.2, .inr ⟨B, by omega, by omega, by simp; omega⟩⟩
end Go.Proofs.Ytimfaplnhlnjlaa
