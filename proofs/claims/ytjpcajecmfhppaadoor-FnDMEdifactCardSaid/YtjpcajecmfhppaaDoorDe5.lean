/-
  WALKS: spec.DMPadded, DMSizes, laws.dmSized.
-/
import Derived.Test.YtjpcajecmfhppaaDoorDe4
namespace Go.Proofs.YtjpcajecmfhppaaDoor
open Go.RowKit

set_option maxRecDepth 100000 in
set_option maxHeartbeats 4000000 in
theorem padded_any (v : Value) (ws : List Nat) (many : Nat) (w : World) (hv : Rd w w.heap.size v (wv8 ws)) (hws : ∀ x ∈ ws, x < 256) (hm : many ≤ 3000) (hl : ws.length < many) :
    Calls Tryd.prog 9 #[v, .int .i64 (many : Int)] w fun e w' => ∃ v' rest, e = .returned v' ∧ RdT w' 5 v' (wv8 (ws ++ 129 :: rest)) ∧ ws.length + 1 + rest.length = many ∧ (∀ x ∈ ws ++ 129 :: rest, x < 256) ∧ Below w.heap.size w w' := by
  obtain ⟨i0, hi0, hz0, hz1, hz2⟩ := info_parts info_u8P
  obtain ⟨L, hL⟩ : ∃ L, L = ws.length := ⟨_, rfl⟩
  rw [← hL] at hl
  obtain ⟨A, cap, hvf, hc1, hc2⟩ := hv.form
  rw [wv8_len, ← hL] at hvf hc1
  unfold maxLen at hc2
  have HV := Lib.hid (hv.up (bal (brf w) (.cells #[] 5)))
  have HE : Hid ((w.alloc (.cells #[] 5)).ownsRow w.heap.size 5 1 (.slice (some ⟨w.heap.size, 0, none⟩) 0 0) 0 []) := Lib.hid (own_empty (Blk.fresh w _ _) (Nat.le_refl _))
  have HWS := Lib.hid hws
  have HLL := Lib.hid hL
  subst hvf
  clear hv hws hL
  go_enter Tryd.func9, Tryd.ntmps9
  go_wp2_with (with_reducible refine stop_at (o := ⟨some 9, _, _, _, _, _⟩) ?_)
  refine Lib.hid ?_
  refine list_app_rd _ rfl _ _ _ rfl w.heap.size 5 i0 _ 1 Tryd.underlying27 hi0 hz0 hz1 hz2 rfl _ 0 _ rfl HE.out _ _ (wv8 ws) rfl HV.out (wv8_one _) (by rw [wv8_len, ← HLL.out]; unfold maxLen; omega) (by rw [wv8_len, ← HLL.out]; omega) (by simp) ?_
  intro v1 w1 ho1 hg1
  rw [List.nil_append, wv8_len, ← HLL.out, Nat.zero_add] at ho1
  have HB1 : Hid (Below w.heap.size w w1) := Lib.hid (below_grown (bal (brf w) _) hg1 HE.out (by simp))
  have HO1 := Lib.hid ho1
  clear ho1 hg1 HE HV
  go_wp2_with fail
  go_loopw [5] (fun ov wr => ∃ (n : Nat) (tl : List Nat) (A1 : Option Addr) (c1 : Nat), ov = .slice A1 n c1 ∧ n ≤ c1 ∧ c1 ≤ 9223372036854775807 ∧ n ≤ many ∧ Hid (n = L + tl.length) ∧ Hid (wr.ownsRow w.heap.size 5 1 ov n (wv8 (ws ++ tl))) ∧ Hid (tl = [] ∨ ∃ rest, tl = 129 :: rest) ∧ Hid (∀ x ∈ tl, x < 256) ∧ Hid (Below w.heap.size w wr)) (fun ov _ => many - (match ov with | .slice _ n _ => n | _ => 0))
  case atStart =>
    obtain ⟨A1, c1, hv1, h1, h2⟩ := (RdT.of_own HO1.out).rd.form
    rw [wv8_len, ← HLL.out] at hv1 h1
    unfold maxLen at h2
    exact ⟨L, [], A1, c1, hv1, h1, h2, by omega, Lib.hid rfl, by simpa using HO1, Lib.hid (.inl rfl), Lib.hid (fun x hx => by cases hx), HB1⟩
  case round =>
    clear HO1 HB1
    obtain ⟨n, tl, A1, c1, rfl, h1, h2, hnm, HNL, HO, HT, HLT, HB⟩ := hrel
    rename World => wr
    by_cases hlt : n < many
    · by_cases hgt : L < n
      · obtain ⟨n1, hn1⟩ : ∃ x, x = n + 1 := ⟨_, rfl⟩
        obtain ⟨y, hy⟩ : ∃ x, x = 149 * n1 := ⟨_, rfl⟩
        obtain ⟨z, hz⟩ : ∃ x, x = y % 253 := ⟨_, rfl⟩
        obtain ⟨u, hu⟩ : ∃ x, x = z + 1 := ⟨_, rfl⟩
        obtain ⟨q, hq⟩ : ∃ x, x = 129 + u := ⟨_, rfl⟩
        have e1 : (n : Int) + 1 = (n1 : Int) := by omega
        have e2 : (149 : Int) * (n1 : Int) = (y : Int) := by omega
        have e3 : Int.tmod (y : Int) 253 = (z : Int) := by rw [Int.tmod_eq_emod_of_nonneg (by omega)]; omega
        have e4 : (y : Int) % 253 = (z : Int) := by omega
        have e5 : (z : Int) + 1 = (u : Int) := by omega
        have e6 : (129 : Int) + (u : Int) = (q : Int) := by omega
        have hb1 : n1 ≤ 3001 ∧ y ≤ 500000 ∧ z < 253 ∧ u ≤ 253 ∧ q ≤ 382 := by omega
        have hne : tl ≠ [] := by intro h; have h8 := HNL.out; rw [h] at h8; simp at h8; omega
        have HNE := Lib.hid hne
        have hgi : (L : Int) < (n : Int) := by omega
        clear hn1 hy hz hu hq hne
        by_cases h254 : q ≤ 254
        · have h254i : ¬ (254 : Int) < (q : Int) := by omega
          have hq8 : q < 256 := by omega
          have HOr := HO
          have HBr := HB
          clear HO HB
          -- the word q is appended: 35 slot, ws ++ tl list, n count, r old, q new
          go_wp2_with (with_reducible refine stop_at (o := ⟨some 35, _, _, _, _, _⟩) ?_)
          refine Lib.hid ?_
          have hob := own_up HOr.out (bal (brf wr) (.cells #[.int .u8 (q : Int)] 5))
          refine list_app_rd _ rfl _ _ _ rfl w.heap.size 5 i0 _ 1 Tryd.underlying27 hi0 hz0 hz1 hz2 rfl _ (n) _ rfl hob _ _ [.int .u8 (q : Int)] rfl (Rd.one rfl _ _) (fun u hu => by simp at hu; subst hu; rfl) (by simp only [List.length_singleton]; unfold maxLen; omega) (by simp only [List.length_singleton]; omega) (by have := HBr.out.size; simp; omega) ?_
          intro vq wq ho1 hg1
          have HBq : Hid (Below w.heap.size w wq) := Lib.hid (below_grown (bal HBr.out _) hg1 hob (by have := HBr.out.size; simp; omega))
          have HOq : Hid (wq.ownsRow w.heap.size 5 1 vq (n + 1) (wv8 (ws ++ tl ++ [q]))) := Lib.hid (by rw [wv8_app]; exact ho1)
          clear ho1 hg1 hob HOr HBr
          have h9 := HOq.out
          obtain ⟨A2, c2, hv2, k1, k2⟩ := (RdT.of_own h9).rd.form
          have hl2 : (wv8 (ws ++ tl ++ [q])).length = n + 1 := by rw [wv8_len, List.length_append, List.length_append, ← HLL.out, HNL.out]; rfl
          rw [hl2] at hv2 k1
          unfold maxLen at k2
          subst hv2
          have HO9 : Hid (wq.ownsRow w.heap.size 5 1 (.slice A2 (n + 1) c2) (n + 1) (wv8 (ws ++ (tl ++ [q])))) := Lib.hid (by rw [← List.append_assoc]; exact HOq.out)
          have HT9 : Hid (tl ++ [q] = [] ∨ ∃ rest, tl ++ [q] = 129 :: rest) := Lib.hid (by
            rcases HT.out with h | ⟨rest, h⟩
            · exact absurd h HNE.out
            · exact .inr ⟨rest ++ [q], by rw [h]; rfl⟩)
          have HL9 : Hid (∀ x ∈ tl ++ [q], x < 256) := Lib.hid (fun x hx => by
            rcases List.mem_append.1 hx with hx | hx
            · exact HLT.out x hx
            · rw [List.mem_singleton] at hx; omega)
          clear h9 hl2 HOq e1 e2 e3 e4 e5 e6
          go_wp2_with fail
          go_roundw
          case rel => exact ⟨n + 1, tl ++ [q], A2, c2, rfl, k1, k2, hlt, Lib.hid (by rw [List.length_append, List.length_singleton]; have := HNL.out; omega), HO9, HT9, HL9, HBq⟩
          case measure => dsimp only; omega
        · obtain ⟨Y, hY⟩ : ∃ x, x = q - 254 := ⟨_, rfl⟩
          have e7 : (q : Int) - 254 = (Y : Int) := by omega
          have h254i : (254 : Int) < (q : Int) := by omega
          have hq8 : Y < 256 := by omega
          clear hY
          have HOr := HO
          have HBr := HB
          clear HO HB
          -- the word Y is appended: 35 slot, ws ++ tl list, n count, r old, q new
          go_wp2_with (with_reducible refine stop_at (o := ⟨some 35, _, _, _, _, _⟩) ?_)
          refine Lib.hid ?_
          have hob := own_up HOr.out (bal (brf wr) (.cells #[.int .u8 (Y : Int)] 5))
          refine list_app_rd _ rfl _ _ _ rfl w.heap.size 5 i0 _ 1 Tryd.underlying27 hi0 hz0 hz1 hz2 rfl _ (n) _ rfl hob _ _ [.int .u8 (Y : Int)] rfl (Rd.one rfl _ _) (fun u hu => by simp at hu; subst hu; rfl) (by simp only [List.length_singleton]; unfold maxLen; omega) (by simp only [List.length_singleton]; omega) (by have := HBr.out.size; simp; omega) ?_
          intro vq wq ho1 hg1
          have HBq : Hid (Below w.heap.size w wq) := Lib.hid (below_grown (bal HBr.out _) hg1 hob (by have := HBr.out.size; simp; omega))
          have HOq : Hid (wq.ownsRow w.heap.size 5 1 vq (n + 1) (wv8 (ws ++ tl ++ [Y]))) := Lib.hid (by rw [wv8_app]; exact ho1)
          clear ho1 hg1 hob HOr HBr
          have h9 := HOq.out
          obtain ⟨A2, c2, hv2, k1, k2⟩ := (RdT.of_own h9).rd.form
          have hl2 : (wv8 (ws ++ tl ++ [Y])).length = n + 1 := by rw [wv8_len, List.length_append, List.length_append, ← HLL.out, HNL.out]; rfl
          rw [hl2] at hv2 k1
          unfold maxLen at k2
          subst hv2
          have HO9 : Hid (wq.ownsRow w.heap.size 5 1 (.slice A2 (n + 1) c2) (n + 1) (wv8 (ws ++ (tl ++ [Y])))) := Lib.hid (by rw [← List.append_assoc]; exact HOq.out)
          have HT9 : Hid (tl ++ [Y] = [] ∨ ∃ rest, tl ++ [Y] = 129 :: rest) := Lib.hid (by
            rcases HT.out with h | ⟨rest, h⟩
            · exact absurd h HNE.out
            · exact .inr ⟨rest ++ [Y], by rw [h]; rfl⟩)
          have HL9 : Hid (∀ x ∈ tl ++ [Y], x < 256) := Lib.hid (fun x hx => by
            rcases List.mem_append.1 hx with hx | hx
            · exact HLT.out x hx
            · rw [List.mem_singleton] at hx; omega)
          clear h9 hl2 HOq e1 e2 e3 e4 e5 e6
          go_wp2_with fail
          go_roundw
          case rel => exact ⟨n + 1, tl ++ [Y], A2, c2, rfl, k1, k2, hlt, Lib.hid (by rw [List.length_append, List.length_singleton]; have := HNL.out; omega), HO9, HT9, HL9, HBq⟩
          case measure => dsimp only; omega
      · have hnil : tl = [] := List.eq_nil_of_length_eq_zero (by have := HNL.out; omega)
        have hgi : ¬ (L : Int) < (n : Int) := by omega
        have HTN := Lib.hid hnil
        have hq8 : (129 : Nat) < 256 := by decide
        clear hnil
        have HOr := HO
        have HBr := HB
        clear HO HB
        -- the word 129 is appended: 35 slot, ws ++ tl list, n count, r old, q new
        go_wp2_with (with_reducible refine stop_at (o := ⟨some 35, _, _, _, _, _⟩) ?_)
        refine Lib.hid ?_
        have hob := own_up HOr.out (bal (brf wr) (.cells #[.int .u8 (129 : Int)] 5))
        refine list_app_rd _ rfl _ _ _ rfl w.heap.size 5 i0 _ 1 Tryd.underlying27 hi0 hz0 hz1 hz2 rfl _ (n) _ rfl hob _ _ [.int .u8 (129 : Int)] rfl (Rd.one rfl _ _) (fun u hu => by simp at hu; subst hu; rfl) (by simp only [List.length_singleton]; unfold maxLen; omega) (by simp only [List.length_singleton]; omega) (by have := HBr.out.size; simp; omega) ?_
        intro vq wq ho1 hg1
        have HBq : Hid (Below w.heap.size w wq) := Lib.hid (below_grown (bal HBr.out _) hg1 hob (by have := HBr.out.size; simp; omega))
        have HOq : Hid (wq.ownsRow w.heap.size 5 1 vq (n + 1) (wv8 (ws ++ tl ++ [129]))) := Lib.hid (by rw [wv8_app]; exact ho1)
        clear ho1 hg1 hob HOr HBr
        have h9 := HOq.out
        obtain ⟨A2, c2, hv2, k1, k2⟩ := (RdT.of_own h9).rd.form
        have hl2 : (wv8 (ws ++ tl ++ [129])).length = n + 1 := by rw [wv8_len, List.length_append, List.length_append, ← HLL.out, HNL.out]; rfl
        rw [hl2] at hv2 k1
        unfold maxLen at k2
        subst hv2
        have HO9 : Hid (wq.ownsRow w.heap.size 5 1 (.slice A2 (n + 1) c2) (n + 1) (wv8 (ws ++ (tl ++ [129])))) := Lib.hid (by rw [← List.append_assoc]; exact HOq.out)
        have HT9 : Hid (tl ++ [129] = [] ∨ ∃ rest, tl ++ [129] = 129 :: rest) := Lib.hid (.inr ⟨[], by rw [HTN.out]; rfl⟩)
        have HL9 : Hid (∀ x ∈ tl ++ [129], x < 256) := Lib.hid (fun x hx => by
          rw [HTN.out] at hx; simp at hx; omega)
        clear h9 hl2 HOq
        go_wp2_with fail
        go_roundw
        case rel => exact ⟨n + 1, tl ++ [129], A2, c2, rfl, k1, k2, hlt, Lib.hid (by rw [List.length_append, List.length_singleton]; have := HNL.out; omega), HO9, HT9, HL9, HBq⟩
        case measure => dsimp only; omega
    · have hnn : n = many := by omega
      have HF : Hid (∃ rest, RdT wr 5 (.slice A1 n c1) (wv8 (ws ++ 129 :: rest)) ∧ ws.length + 1 + rest.length = many ∧ ∀ x ∈ ws ++ 129 :: rest, x < 256) := Lib.hid (by
        rcases HT.out with h | ⟨rest, h⟩
        · have h8 := HNL.out; rw [h] at h8; simp at h8; omega
        · refine ⟨rest, by rw [← h]; exact RdT.of_own HO.out, ?_, fun x hx => ?_⟩
          · rw [← HLL.out]
            have h8 := HNL.out
            rw [h, List.length_cons] at h8
            omega
          · rcases List.mem_append.1 hx with hx | hx
            · exact HWS.out x hx
            · exact HLT.out x (by rw [h]; exact hx))
      clear hnn HO HT
      go_wp2_with fail
      go_ret
      obtain ⟨rest, f1, f2, f3⟩ := HF.out
      exact ⟨_, rest, rfl, f1, f2, f3, HB.out⟩
end Go.Proofs.YtjpcajecmfhppaaDoor
