/-
  WALKS: spec.DMInMode, dmDigit, DMAsciiWords.
-/
import Derived.Test.YtjpcajecmfhppaaDoorDa6
namespace Go.Proofs.YtjpcajecmfhppaaDoor
open Go.RowKit

/-- Bytes that the modes C40 (1) and EDIFACT (4) have. -/
def okM (m : Nat) (c : UInt8) : Bool := decide ((c.toNat : Int) ≤ 127) && (decide (m = 1) || (decide (32 ≤ (c.toNat : Int)) && decide ((c.toNat : Int) ≤ 94)))
theorem okM_1 {c : UInt8} (h : okM 1 c = true) : c.toNat < 128 := by
  simp [okM] at h; omega
theorem okM_4 {c : UInt8} (h : okM 4 c = true) : 32 ≤ c.toNat ∧ c.toNat ≤ 94 := by
  simp [okM] at h; omega
theorem all_drop (p : UInt8 → Bool) (s : ByteArray) (i : Nat) (h : i < s.size) : (s.data.toList.drop i).all p = (p s[i] && (s.data.toList.drop (i + 1)).all p) := by
  have h' : i < s.data.toList.length := by simpa using h
  rw [List.drop_eq_getElem_cons h', List.all_cons]
  rfl
def allM (m : Nat) (s : ByteArray) : Bool := s.data.toList.all (okM m)
theorem allM_1 {s : ByteArray} (h : allM 1 s = true) : ∀ c ∈ s.data.toList, c.toNat < 128 := fun c hc => okM_1 (List.all_eq_true.1 h c hc)
theorem allM_4 {s : ByteArray} (h : allM 4 s = true) : ∀ c ∈ s.data.toList, 32 ≤ c.toNat ∧ c.toNat ≤ 94 := fun c hc => okM_4 (List.all_eq_true.1 h c hc)
theorem inMode_any (m : Nat) (s : ByteArray) (w : World) (hm : m = 1 ∨ m = 4) (hs : s.size ≤ 2147483647) :
    Calls Tryd.prog 11 #[.int .i64 (m : Int), .string s] w fun e w' => e = .returned (.bool (allM m s)) ∧ w' = w := by
  go_enter Tryd.func11, Tryd.ntmps11
  go_wp2
  go_loop [9] (fun i => ∃ k : Nat, k ≤ s.size ∧ i = .int .i64 k ∧ Hid (allM m s = (s.data.toList.drop k).all (okM m))) (fun i => s.size - (intOf i).toNat)
  case atStart => exact ⟨0, Nat.zero_le _, rfl, Lib.hid rfl⟩
  case round =>
    obtain ⟨k, hk, rfl, HA⟩ := hrel
    by_cases hlt : k < s.size
    · have HA2 : Hid (allM m s = (okM m s[k] && (s.data.toList.drop (k + 1)).all (okM m))) := Lib.hid (by rw [HA.out, all_drop _ s k hlt])
      by_cases hb : 127 < (s[k].toNat : Int)
      · have HF : Hid (allM m s = false) := Lib.hid (by rw [HA2.out]; simp [okM]; omega)
        go_wp2
        go_ret
        exact ⟨ret_bool HF.out.symm, rfl⟩
      · rcases hm with rfl | rfl
        · have HF : Hid (allM 1 s = (s.data.toList.drop (k + 1)).all (okM 1)) := Lib.hid (by rw [HA2.out]; simp [okM]; omega)
          go_wp2
          go_round
          case rel => exact ⟨k + 1, by omega, by go_num, HF⟩
          case measure => simp [intOf]; omega
        · by_cases h32 : (s[k].toNat : Int) < 32
          · have HF : Hid (allM 4 s = false) := Lib.hid (by rw [HA2.out]; simp [okM]; omega)
            go_wp2
            go_ret
            exact ⟨ret_bool HF.out.symm, rfl⟩
          · by_cases h94 : 94 < (s[k].toNat : Int)
            · have HF : Hid (allM 4 s = false) := Lib.hid (by rw [HA2.out]; simp [okM]; omega)
              go_wp2
              go_ret
              exact ⟨ret_bool HF.out.symm, rfl⟩
            · have HF : Hid (allM 4 s = (s.data.toList.drop (k + 1)).all (okM 4)) := Lib.hid (by rw [HA2.out]; simp [okM]; omega)
              go_wp2
              go_round
              case rel => exact ⟨k + 1, by omega, by go_num, HF⟩
              case measure => simp [intOf]; omega
    · have hke : k = s.size := by omega
      have HF : Hid (allM m s = true) := Lib.hid (by rw [HA.out, hke, List.drop_eq_nil_of_le (by simp)]; rfl)
      have hm1 : (m : Int) ≤ 5 := by omega
      clear hke
      go_wp2
      go_ret
      exact ⟨ret_bool HF.out.symm, rfl⟩
theorem dmDigit_any (c : UInt8) (w : World) : Calls Tryd.prog 40 #[.int .u8 c.toNat] w fun e w' => e = .returned (.bool (isDg c)) ∧ w' = w := by
  unfold isDg
  by_cases h1 : 48 ≤ (c.toNat : Int)
  · by_cases h2 : (c.toNat : Int) ≤ 57
    · go_enter Tryd.func40, Tryd.ntmps40
      go_wp2
      go_ret
      exact ⟨ret_bool (by rw [decide_eq_true (p := 48 ≤ c.toNat) (by omega), decide_eq_true (p := c.toNat ≤ 57) (by omega)]; rfl), rfl⟩
    · go_enter Tryd.func40, Tryd.ntmps40
      go_wp2
      go_ret
      exact ⟨ret_bool (by rw [decide_eq_false (p := c.toNat ≤ 57) (by omega), Bool.and_false]), rfl⟩
  · go_enter Tryd.func40, Tryd.ntmps40
    go_wp2
    go_ret
    exact ⟨ret_bool (by rw [decide_eq_false (p := 48 ≤ c.toNat) (by omega), Bool.false_and]), rfl⟩
theorem ascW_two (s : ByteArray) (i : Nat) (h : i + 1 < s.size) : ascW (s.data.toList.drop i) = if (isDg s[i] && isDg s[i + 1]) = true then (130 + 10 * (s[i].toNat - 48) + (s[i + 1].toNat - 48)) :: ascW (s.data.toList.drop (i + 2)) else (s[i].toNat + 1) :: ascW (s.data.toList.drop (i + 1)) := by
  have h1 : i < s.data.toList.length := by simp; omega
  have h2 : i + 1 < s.data.toList.length := by simpa using h
  rw [List.drop_eq_getElem_cons h1, List.drop_eq_getElem_cons h2]
  rw [ascW]
  rfl
theorem ascW_last (s : ByteArray) (i : Nat) (h : i + 1 = s.size) : ascW (s.data.toList.drop i) = [(s[i]'(by omega)).toNat + 1] := by
  have h1 : i < s.data.toList.length := by simp; omega
  rw [List.drop_eq_getElem_cons h1, List.drop_eq_nil_of_le (by simp; omega)]
  rfl
theorem wv8_app (a b : List Nat) : wv8 (a ++ b) = wv8 a ++ wv8 b := by simp [wv8]
set_option maxRecDepth 100000 in
set_option maxHeartbeats 4000000 in
theorem asciiWords_any (s : ByteArray) (w : World) (hs : s.size ≤ 2147483647) (hc : ∀ c ∈ s.data.toList, c.toNat < 128) :
    Calls Tryd.prog 17 #[.string s] w fun e w' => ∃ v, e = .returned v ∧ RdT w' 5 v (wv8 (ascW s.data.toList)) ∧ Below w.heap.size w w' := by
  obtain ⟨i0, hi0, hz0, hz1, hz2⟩ := info_parts info_u8P
  have HC := Lib.hid hc
  clear hc
  go_enter Tryd.func17, Tryd.ntmps17
  go_wp2_with fail
  go_loopw [3, 4] (fun ov iv wr => ∃ (i n : Nat) (out : List Nat), i ≤ s.size ∧ iv = .int .i64 (i : Int) ∧ n ≤ i ∧ Hid (wr.ownsRow w.heap.size 5 1 ov n (wv8 out)) ∧ Hid (out ++ ascW (s.data.toList.drop i) = ascW s.data.toList) ∧ Hid (Below w.heap.size w wr)) (fun _ iv _ => s.size - (intOf iv).toNat)
  case atStart => exact ⟨0, 0, [], Nat.zero_le _, rfl, Nat.le_refl _, Lib.hid (own_nil _ _ _), Lib.hid rfl, Lib.hid (brf w)⟩
  case round =>
    obtain ⟨i, n, out, hi, rfl, hni, HOr, HE, HBr⟩ := hrel
    rename World => wr
    by_cases hlt : i < s.size
    · have h1c : s[i].toNat < 128 := HC.out s[i] (by show s.data.toList[i]'(by simpa using hlt) ∈ _; exact List.getElem_mem _)
      by_cases hl2 : i + 1 < s.size
      · have h2c : s[i + 1].toNat < 128 := HC.out s[i + 1] (by show s.data.toList[i + 1]'(by simpa using hl2) ∈ _; exact List.getElem_mem _)
        have HW := Lib.hid (ascW_two s i hl2)
        have hd1 := fun w' => dmDigit_any s[i] w'
        have hd2 := fun w' => dmDigit_any s[i + 1] w'
        by_cases hg1 : isDg s[i] = true
        · rw [hg1] at hd1
          go_wp2_with fail
          refine (hd1 _).mono ?_
          rintro e wr ⟨rfl, rfl⟩
          by_cases hg2 : isDg s[i + 1] = true
          · rw [hg2] at hd2
            go_wp2_with fail
            refine (hd2 _).mono ?_
            rintro e wr ⟨rfl, rfl⟩
            obtain ⟨a1, a2⟩ := (by simpa [isDg] using hg1 : 48 ≤ s[i].toNat ∧ s[i].toNat ≤ 57)
            obtain ⟨b1, b2⟩ := (by simpa [isDg] using hg2 : 48 ≤ s[i + 1].toNat ∧ s[i + 1].toNat ≤ 57)
            obtain ⟨A, hA⟩ : ∃ x, x = s[i].toNat - 48 := ⟨_, rfl⟩
            obtain ⟨T, hT⟩ : ∃ x, x = 10 * A := ⟨_, rfl⟩
            obtain ⟨U, hU⟩ : ∃ x, x = 130 + T := ⟨_, rfl⟩
            obtain ⟨V, hV⟩ : ∃ x, x = U + s[i + 1].toNat := ⟨_, rfl⟩
            obtain ⟨V2, hV2⟩ : ∃ x, x = V % 256 := ⟨_, rfl⟩
            obtain ⟨Y, hY⟩ : ∃ x, x = 130 + 10 * (s[i].toNat - 48) + (s[i + 1].toNat - 48) := ⟨_, rfl⟩
            have HWY : Hid (ascW (s.data.toList.drop i) = Y :: ascW (s.data.toList.drop (i + 2))) := Lib.hid (by rw [HW.out, if_pos (by rw [hg1, hg2]; rfl), hY])
            have e1 : (s[i].toNat : Int) - 48 = (A : Int) := by omega
            have e2 : (10 : Int) * (A : Int) = (T : Int) := by omega
            have e3 : (130 : Int) + (T : Int) = (U : Int) := by omega
            have e4 : (U : Int) + (s[i + 1].toNat : Int) = (V : Int) := by omega
            have w1 : IntKind.u8.wrap (A : Int) = (A : Int) := by rw [IntKind.wrap_u8]; omega
            have w2 : IntKind.u8.wrap (T : Int) = (T : Int) := by rw [IntKind.wrap_u8]; omega
            have w3 : IntKind.u8.wrap (U : Int) = (U : Int) := by rw [IntKind.wrap_u8]; omega
            have w4 : IntKind.u8.wrap (V : Int) = (V2 : Int) := by rw [IntKind.wrap_u8]; omega
            have w5 : IntKind.u8.wrap ((V2 : Int) - 48) = (Y : Int) := by rw [IntKind.wrap_u8]; omega
            have x1 : IntKind.i64.wrap ((i : Int) + 1) = (i : Int) + 1 := by rw [IntKind.wrap_i64]; omega
            have x2 : 0 ≤ (i : Int) + 1 := by omega
            have x3 : (i : Int) + 1 < s.size := by omega
            have x4 : ((i : Int) + 1).toNat = i + 1 := by omega
            have hY8 : Y < 256 := by omega
            clear hA hT hU hV hV2 hY hg1 hg2 a1 a2 b1 b2 HW hd1 hd2
            go_wp2_with fail
            refine Can.wp_region_can (fun w' => Below w.heap.size w w') 999 [0, 1, 2, 3, 4, 5, 6, 7, 8, 9, 10, 11, 12, 13, 14, 15] (by kernel_rfl) (by kernel_rfl) (fun _ _ d _ _ h => by cases d <;> exact h) HBr.out.drew (fun hHeld => ?_)
            repeat (refine Can.can_pure (v := ?_) rfl rfl (Or.inl ⟨by rfl, ?_⟩) ?_; rotate_left; (focus ((intro w hSw); (try dsimp only at hSw); go_simp; (try with_reducible rfl))); (try simp only [Act.put, List.getElem_toArray, List.getElem_cons_succ, List.getElem_cons_zero, List.setIfInBounds_toArray, List.set_cons_zero, List.set_cons_succ]))
            refine Can.can_eff rfl rfl (by rfl) (fun K hK => ?_)
            go_simp
            refine hK.out _ _ (bal hHeld _) (fun hHeld1 => ?_)
            clear hK K
            (try simp only [Act.put, List.getElem_toArray, List.getElem_cons_succ, List.getElem_cons_zero, List.setIfInBounds_toArray, List.set_cons_zero, List.set_cons_succ])
            have hown9 : wr.drew.ownsRow w.heap.size 5 1 u3 n (wv8 out) := HOr.out
            refine Can.can_eff rfl rfl (by rfl) (fun K hK => ?_)
            refine step_app1 rfl _ _ 27 rfl w.heap.size 5 i0 _ 1 Tryd.underlying27 hi0 hz0 hz1 hz2 rfl u3 n (wv8 out) rfl wr.drew (.int .u8 (Y : Int)) hown9 1 rfl rfl (by unfold maxLen; omega) (by omega) HBr.out.size ?_
            intro gg cap wz ho5 hg5
            have hB5 : Below w.heap.size w wz := below_grown (bal HBr.out.drew _) hg5 (own_up (w := wr.drew) HOr.out (bal (brf wr.drew) _)) (by have := HBr.out.size; simp; omega)
            refine hK.out _ _ hB5 (fun hHeld5 => ?_)
            clear hK K hHeld hHeld1
            (try simp only [Act.put, List.getElem_toArray, List.getElem_cons_succ, List.getElem_cons_zero, List.setIfInBounds_toArray, List.set_cons_zero, List.set_cons_succ])
            repeat (refine Can.can_pure (v := ?_) rfl rfl (Or.inl ⟨by rfl, ?_⟩) ?_; rotate_left; (focus ((intro w hSw); (try dsimp only at hSw); go_simp; (try with_reducible rfl))); (try simp only [Act.put, List.getElem_toArray, List.getElem_cons_succ, List.getElem_cons_zero, List.setIfInBounds_toArray, List.set_cons_zero, List.set_cons_succ]))
            refine Can.can_done ?_
            have HO9 : Hid (wz.ownsRow w.heap.size 5 1 (.slice (some ⟨gg, 0, none⟩) (n + 1) cap) (n + 1) (wv8 (out ++ [Y]))) := Lib.hid (by rw [wv8_app]; exact ho5)
            have HB9 := Lib.hid hHeld5
            have HE9 : Hid (out ++ [Y] ++ ascW (s.data.toList.drop (i + 2)) = ascW s.data.toList) := Lib.hid (by rw [List.append_assoc, ← HE.out, HWY.out]; rfl)
            clear ho5 hg5 hB5 hHeld5 HOr HE HWY
            (try clear e1 e2 e3 e4)
            (try clear w1 w2 w3 w4 w5)
            (try clear x1)
            go_wp2_with fail
            go_roundw
            case rel => exact ⟨i + 2, n + 1, _, by omega, by go_num, by omega, HO9, HE9, HB9⟩
            case measure => simp [intOf]; omega
          · have hg2 : isDg s[i + 1] = false := by simpa using hg2
            rw [hg2] at hd2
            have HWY : Hid (ascW (s.data.toList.drop i) = (s[i].toNat + 1) :: ascW (s.data.toList.drop (i + 1))) := Lib.hid (by rw [HW.out, if_neg (by rw [hg2, Bool.and_false]; decide)])
            clear hg1 hg2 HW hd1
            go_wp2_with fail
            refine (hd2 _).mono ?_
            rintro e wr ⟨rfl, rfl⟩
            clear hd2
            obtain ⟨Y, hY⟩ : ∃ x, x = s[i].toNat + 1 := ⟨_, rfl⟩
            have e1 : (s[i].toNat : Int) + 1 = (Y : Int) := by omega
            have hY8 : Y < 256 := by omega
            rw [← hY] at HWY
            clear hY
            -- the word Y is appended: 52 slot, out the list so far, n how many, r old letter, q new letter; the row's base is w.heap.size
            go_wp2_with (with_reducible refine stop_at (o := ⟨some 52, _, _, _, _, _⟩) ?_)
            refine Lib.hid ?_
            have hob := own_up HOr.out (bal (brf wr) (.cells #[.int .u8 (Y : Int)] 5))
            refine list_app_rd _ rfl _ _ _ rfl w.heap.size 5 i0 _ 1 Tryd.underlying27 hi0 hz0 hz1 hz2 rfl _ (n) _ rfl hob _ _ [.int .u8 (Y : Int)] rfl (Rd.one rfl _ _) (fun u hu => by simp at hu; subst hu; rfl) (by simp only [List.length_singleton]; unfold maxLen; omega) (by simp only [List.length_singleton]; omega) (by have := HBr.out.size; simp; omega) ?_
            intro vq wq ho1 hg1
            have HBq : Hid (Below w.heap.size w wq) := Lib.hid (below_grown (bal HBr.out _) hg1 hob (by have := HBr.out.size; simp; omega))
            have HOq : Hid (wq.ownsRow w.heap.size 5 1 vq (n + 1) (wv8 (out ++ [Y]))) := Lib.hid (by rw [wv8_app]; exact ho1)
            clear ho1 hg1 hob HOr HBr
            have HE9 : Hid (out ++ [Y] ++ ascW (s.data.toList.drop (i + 1)) = ascW s.data.toList) := Lib.hid (by rw [List.append_assoc, ← HE.out, HWY.out]; rfl)
            clear HE HWY e1
            go_wp2_with fail
            go_roundw
            case rel => exact ⟨i + 1, n + 1, _, by omega, by go_num, by omega, HOq, HE9, HBq⟩
            case measure => simp [intOf]; omega
        · have hg1 : isDg s[i] = false := by simpa using hg1
          rw [hg1] at hd1
          have HWY : Hid (ascW (s.data.toList.drop i) = (s[i].toNat + 1) :: ascW (s.data.toList.drop (i + 1))) := Lib.hid (by rw [HW.out, if_neg (by rw [hg1, Bool.false_and]; decide)])
          clear hg1 HW hd2
          go_wp2_with fail
          refine (hd1 _).mono ?_
          rintro e wr ⟨rfl, rfl⟩
          clear hd1
          obtain ⟨Y, hY⟩ : ∃ x, x = s[i].toNat + 1 := ⟨_, rfl⟩
          have e1 : (s[i].toNat : Int) + 1 = (Y : Int) := by omega
          have hY8 : Y < 256 := by omega
          rw [← hY] at HWY
          clear hY
          -- the word Y is appended: 52 slot, out the list so far, n how many, r old letter, q new letter; the row's base is w.heap.size
          go_wp2_with (with_reducible refine stop_at (o := ⟨some 52, _, _, _, _, _⟩) ?_)
          refine Lib.hid ?_
          have hob := own_up HOr.out (bal (brf wr) (.cells #[.int .u8 (Y : Int)] 5))
          refine list_app_rd _ rfl _ _ _ rfl w.heap.size 5 i0 _ 1 Tryd.underlying27 hi0 hz0 hz1 hz2 rfl _ (n) _ rfl hob _ _ [.int .u8 (Y : Int)] rfl (Rd.one rfl _ _) (fun u hu => by simp at hu; subst hu; rfl) (by simp only [List.length_singleton]; unfold maxLen; omega) (by simp only [List.length_singleton]; omega) (by have := HBr.out.size; simp; omega) ?_
          intro vq wq ho1 hg1
          have HBq : Hid (Below w.heap.size w wq) := Lib.hid (below_grown (bal HBr.out _) hg1 hob (by have := HBr.out.size; simp; omega))
          have HOq : Hid (wq.ownsRow w.heap.size 5 1 vq (n + 1) (wv8 (out ++ [Y]))) := Lib.hid (by rw [wv8_app]; exact ho1)
          clear ho1 hg1 hob HOr HBr
          have HE9 : Hid (out ++ [Y] ++ ascW (s.data.toList.drop (i + 1)) = ascW s.data.toList) := Lib.hid (by rw [List.append_assoc, ← HE.out, HWY.out]; rfl)
          clear HE HWY e1
          go_wp2_with fail
          go_roundw
          case rel => exact ⟨i + 1, n + 1, _, by omega, by go_num, by omega, HOq, HE9, HBq⟩
          case measure => simp [intOf]; omega
      · have HWY : Hid (ascW (s.data.toList.drop i) = (s[i].toNat + 1) :: ascW (s.data.toList.drop (i + 1))) := Lib.hid (by
          rw [ascW_last s i (by omega), List.drop_eq_nil_of_le (by simp; omega)]; rfl)
        obtain ⟨Y, hY⟩ : ∃ x, x = s[i].toNat + 1 := ⟨_, rfl⟩
        have e1 : (s[i].toNat : Int) + 1 = (Y : Int) := by omega
        have hY8 : Y < 256 := by omega
        rw [← hY] at HWY
        clear hY
        -- the word Y is appended: 52 slot, out the list so far, n how many, r old letter, q new letter; the row's base is w.heap.size
        go_wp2_with (with_reducible refine stop_at (o := ⟨some 52, _, _, _, _, _⟩) ?_)
        refine Lib.hid ?_
        have hob := own_up HOr.out (bal (brf wr) (.cells #[.int .u8 (Y : Int)] 5))
        refine list_app_rd _ rfl _ _ _ rfl w.heap.size 5 i0 _ 1 Tryd.underlying27 hi0 hz0 hz1 hz2 rfl _ (n) _ rfl hob _ _ [.int .u8 (Y : Int)] rfl (Rd.one rfl _ _) (fun u hu => by simp at hu; subst hu; rfl) (by simp only [List.length_singleton]; unfold maxLen; omega) (by simp only [List.length_singleton]; omega) (by have := HBr.out.size; simp; omega) ?_
        intro vq wq ho1 hg1
        have HBq : Hid (Below w.heap.size w wq) := Lib.hid (below_grown (bal HBr.out _) hg1 hob (by have := HBr.out.size; simp; omega))
        have HOq : Hid (wq.ownsRow w.heap.size 5 1 vq (n + 1) (wv8 (out ++ [Y]))) := Lib.hid (by rw [wv8_app]; exact ho1)
        clear ho1 hg1 hob HOr HBr
        have HE9 : Hid (out ++ [Y] ++ ascW (s.data.toList.drop (i + 1)) = ascW s.data.toList) := Lib.hid (by rw [List.append_assoc, ← HE.out, HWY.out]; rfl)
        clear HE HWY e1
        go_wp2_with fail
        go_roundw
        case rel => exact ⟨i + 1, n + 1, _, by omega, by go_num, by omega, HOq, HE9, HBq⟩
        case measure => simp [intOf]; omega
    · have hie : i = s.size := by omega
      have HOF : Hid (RdT wr 5 u3 (wv8 (ascW s.data.toList))) := Lib.hid (by
        have h9 := HE.out
        rw [hie, List.drop_eq_nil_of_le (by simp)] at h9
        simp only [ascW, List.append_nil] at h9
        rw [← h9]; exact RdT.of_own HOr.out)
      clear hie HOr HE
      go_wp2_with fail
      go_ret
      exact ⟨_, rfl, HOF.out, HBr.out⟩
end Go.Proofs.YtjpcajecmfhppaaDoor
