/-
  WALK: spec.dmSixes.
-/
import Derived.Test.YtjpcajecmfhppaaDoorDe3
namespace Go.Proofs.YtjpcajecmfhppaaDoor
open Go.RowKit

theorem ediC_at (s : ByteArray) (i : Nat) (h : i < s.size) : (ediC s.data.toList).take (i + 1) = (ediC s.data.toList).take i ++ [s[i].toNat % 64] := by
  have h' : i < s.data.toList.length := by simpa using h
  unfold ediC
  rw [List.take_append_of_le_length (by simp; omega), List.take_append_of_le_length (by simp; omega), List.take_succ_eq_append_getElem (by simpa using h'), List.getElem_map]
  rfl
theorem ediC_end (s : ByteArray) : (ediC s.data.toList).take (s.size + 1) = (ediC s.data.toList).take s.size ++ [31] := by
  unfold ediC
  rw [List.take_of_length_le (by simp), List.take_append_of_le_length (by simp), List.take_of_length_le (by simp)]
theorem and_mask (X m : Nat) (k : Nat) (hX : X < 65536) (hm : m + 1 = 2 ^ k) (hk : k < 16) : bits .and .i64 (X : Int) (m : Int) = ((X % 2 ^ k : Nat) : Int) := by
  have hp : 2 ^ k ≤ 2 ^ 16 := Nat.pow_le_pow_right (by decide) (by omega)
  rw [i64_and X m (by omega) (by omega), show m = 2 ^ k - 1 by omega, Nat.and_two_pow_sub_one_eq_mod]
theorem wrap8_64 (c : UInt8) : wrap64 (c.toNat : Int) = (c.toNat : Int) := by
  have h := c.toNat_lt
  unfold wrap64
  omega
set_option maxRecDepth 100000 in
set_option maxHeartbeats 4000000 in
theorem sixes_any (s : ByteArray) (w : World) (hs : s.size ≤ 1555) :
    Calls Tryd.prog 18 #[.string s] w fun e w' => ∃ v, e = .returned v ∧ RdT w' 5 v (wv8 (240 :: sixW (ediC s.data.toList))) ∧ Below w.heap.size w w' := by
  obtain ⟨i0, hi0, hz0, hz1, hz2⟩ := info_parts info_u8P
  have HO0 : Hid ((w.alloc (.cells #[.int .u8 240] 5)).ownsRow w.heap.size 5 1 (.slice (some ⟨w.heap.size, 0, none⟩) 1 1) 1 (wv8 [240])) := Lib.hid (own_lit (xs := wv8 [240]) (Blk.fresh w _ _) (Nat.le_refl _) (by decide))
  go_enter Tryd.func18, Tryd.ntmps18
  go_wp2_with fail
  go_loopw [3, 4, 5, 6] (fun ov bv nv iv wr => ∃ (i c : Nat) (o : List Nat) (b n : Nat), i ≤ s.size + 1 ∧ iv = .int .i64 (i : Int) ∧ bv = .int .i64 (b : Int) ∧ nv = .int .i64 (n : Int) ∧ n % 2 = 0 ∧ n < 8 ∧ b < 2 ^ n ∧ c ≤ i + 1 ∧ Hid (sixF ((ediC s.data.toList).take i) = (o, b, n)) ∧ Hid (wr.ownsRow w.heap.size 5 1 ov c (wv8 (240 :: o))) ∧ Hid (Below w.heap.size w wr)) (fun _ _ _ iv _ => s.size + 1 - (intOf iv).toNat)
  case atStart => exact ⟨0, 1, [], 0, 0, Nat.zero_le _, rfl, rfl, rfl, rfl, by decide, by decide, Nat.le_refl _, Lib.hid rfl, HO0, Lib.hid (bal (brf w) _)⟩
  case round =>
    clear HO0
    obtain ⟨i, c, o, b, n, hi, rfl, rfl, rfl, hn2, hn8, hb, hc, HF0, HO, HB⟩ := hrel
    rename World => wr
    have HF : Hid ((o, b, n) = sixF ((ediC s.data.toList).take i)) := Lib.hid HF0.out.symm
    have hb64 : b < 64 := by
      have h9 : 2 ^ n ≤ 2 ^ 6 := Nat.pow_le_pow_right (by decide) (by omega)
      omega
    by_cases hlt : i < s.size
    · have hle : i ≤ s.size := by omega
      have hle2 : (i : Int) ≤ (s.size : Int) := by omega
      obtain ⟨x, hx⟩ : ∃ x, x = s[i].toNat % 64 := ⟨_, rfl⟩
      have HTK : Hid ((ediC s.data.toList).take (i + 1) = (ediC s.data.toList).take i ++ [x]) := Lib.hid (by rw [hx]; exact ediC_at s i hlt)
      have hx64 : x < 64 := by omega
      have f0 : bits .and .i64 (wrap64 (s[i].toNat : Int)) 63 = (x : Int) := by
        rw [wrap8_64 s[i], hx]; exact and_mask _ 63 6 (by have := s[i].toNat_lt; omega) (by decide) (by decide)
      have HW0 := Lib.hid f0
      clear hx HF0 f0
      -- the value x is there: the walk goes on
      obtain ⟨X, hX⟩ : ∃ X, X = b * 64 + x := ⟨_, rfl⟩
      obtain ⟨b6, hb6⟩ : ∃ y, y = b * 64 := ⟨_, rfl⟩
      have f1 : (b : Int) * 64 = (b6 : Int) := by omega
      have f2 : bits .or .i64 (b6 : Int) (x : Int) = (X : Int) := by
        rw [i64_or b6 x (by omega) (by omega), hb6, hX]
        exact congrArg _ (or_add b x 6 (by omega))
      have hXb : X < 4096 := by omega
      have hXb2 : X < 2 ^ n * 64 := by
        rw [hX]
        have h9 := hb
        generalize 2 ^ n = Q at *
        omega
      clear hb6
      have hn4 : n = 0 ∨ n = 2 ∨ n = 4 ∨ n = 6 := by omega
      rcases hn4 with hn | hn | hn | hn
      · have hni : (n : Int) = 0 := by omega
        have HST : Hid (sixF ((ediC s.data.toList).take (i + 1)) = (o, X, 6)) := Lib.hid (by
          rw [HTK.out, sixF_snoc, ← HF.out]
          unfold sixStep
          dsimp only
          rw [hn, if_neg (by decide), hX])
        rw [hn] at hXb2
        rw [hni]
        clear hX hn HF HTK hni
        have f0 := HW0.out
        go_wp2_with fail
        (try clear f0)
        go_loopw [3, 4, 5] (fun ov bv nv wr => ov = u3 ∧ bv = .int .i64 (X : Int) ∧ nv = .int .i64 6 ∧ Hid (wr.ownsRow w.heap.size 5 1 ov c (wv8 (240 :: o))) ∧ Hid (Below w.heap.size w wr)) (fun _ _ nv _ => (intOf nv).toNat)
        case atStart => exact ⟨rfl, rfl, rfl, HO, HB⟩
        case round =>
          clear HO HB
          rename World => wq
          obtain ⟨rfl, rfl, rfl, HOq, HBq⟩ := hrel
          go_wp2_with fail
          go_roundw
          case rel => exact ⟨i + 1, c, o, X, 6, by omega, by go_num, rfl, by go_num, by decide, by decide, by simpa using hXb2, by omega, HST, HOq, HBq⟩
          case measure => simp [intOf]; omega
      · have hXb : X < 256 := by rw [hn] at hXb2; simpa using hXb2
        -- n = 2: n + 6 = 8, behind it 0; 2 ^ 0 = 1; the mask 0
        have hni : (n : Int) = 2 := by omega
        obtain ⟨Y, hY⟩ : ∃ Y, Y = X / 1 := ⟨_, rfl⟩
        obtain ⟨Z, hZ⟩ : ∃ Z, Z = X % 1 := ⟨_, rfl⟩
        have hYb : Y < 256 := by rw [hY]; have := hXb; omega
        have hZb : Z < 1 := by rw [hZ]; exact Nat.mod_lt _ (by decide)
        have g1 : (X : Int) / 1 = (Y : Int) := by omega
        have g2 : bits .and .i64 (X : Int) 0 = (Z : Int) := by rw [hZ]; exact and_mask X 0 0 (by omega) (by decide) (by decide)
        have HST : Hid (sixF ((ediC s.data.toList).take (i + 1)) = (o ++ [Y], Z, 0)) := Lib.hid (by
          rw [HTK.out, sixF_snoc, ← HF.out]
          unfold sixStep
          dsimp only
          rw [hn, if_pos (by decide), hY, hZ, hX])
        rw [hni]
        clear hY hZ hX hn HF HTK hni
        have f0 := HW0.out
        go_wp2_with fail
        (try clear f0)
        go_loopw [3, 4, 5] (fun ov bv nv wr => ∃ (o2 : List Nat) (c2 b2 n2 : Nat), bv = .int .i64 (b2 : Int) ∧ nv = .int .i64 (n2 : Int) ∧ Hid (wr.ownsRow w.heap.size 5 1 ov c2 (wv8 (240 :: o2))) ∧ Hid ((n2 = 8 ∧ b2 = X ∧ o2 = o ∧ c2 = c) ∨ (n2 = 0 ∧ b2 = Z ∧ o2 = o ++ [Y] ∧ c2 = c + 1)) ∧ Hid (Below w.heap.size w wr)) (fun _ _ nv _ => (intOf nv).toNat)
        case atStart => exact ⟨o, c, X, 8, rfl, rfl, HO, Lib.hid (.inl ⟨rfl, rfl, rfl, rfl⟩), HB⟩
        case round =>
          clear HO HB
          rename World => wq
          obtain ⟨o2, c2, b2, n2, rfl, rfl, HOq, HCQ, HBq⟩ := hrel
          rcases HCQ.out with ⟨hn, hbx, hox, hcx⟩ | ⟨hn, hbx, hox, hcx⟩
          · have hni : (n2 : Int) = 8 := by omega
            have hc2 : c2 ≤ i + 2 := by omega
            have hbi : (b2 : Int) = (X : Int) := by omega
            have HOX : Hid (240 :: o2 ++ [Y] = 240 :: (o ++ [Y]) ∧ c2 + 1 = c + 1) := Lib.hid ⟨by rw [hox]; rfl, by omega⟩
            clear hn HCQ hbx hox hcx
            -- the word Y is appended: 40 slot, 240 :: o2 list, c2 count, q old, p new
            go_wp2_with (with_reducible refine stop_at (o := ⟨some 40, _, _, _, _, _⟩) ?_)
            refine Lib.hid ?_
            have hob := own_up HOq.out (bal (brf wq) (.cells #[.int .u8 (Y : Int)] 5))
            refine list_app_rd _ rfl _ _ _ rfl w.heap.size 5 i0 _ 1 Tryd.underlying27 hi0 hz0 hz1 hz2 rfl _ (c2) _ rfl hob _ _ [.int .u8 (Y : Int)] rfl (Rd.one rfl _ _) (fun u hu => by simp at hu; subst hu; rfl) (by simp only [List.length_singleton]; unfold maxLen; omega) (by simp only [List.length_singleton]; omega) (by have := HBq.out.size; simp; omega) ?_
            intro vp wp ho1 hg1
            have HBp : Hid (Below w.heap.size w wp) := Lib.hid (below_grown (bal HBq.out _) hg1 hob (by have := HBq.out.size; simp; omega))
            have HOp : Hid (wp.ownsRow w.heap.size 5 1 vp (c2 + 1) (wv8 (240 :: o2 ++ [Y]))) := Lib.hid (by rw [wv8_app]; exact ho1)
            clear ho1 hg1 hob HOq HBq
            go_wp2_with fail
            go_roundw
            case rel => exact ⟨o ++ [Y], c + 1, Z, 0, rfl, rfl, Lib.hid (by rw [← HOX.out.1, ← HOX.out.2]; exact HOp.out), Lib.hid (.inr ⟨rfl, rfl, rfl, rfl⟩), HBp⟩
            case measure => simp [intOf]; omega
          · have hni : (n2 : Int) = 0 := by omega
            have hbi : (b2 : Int) = (Z : Int) := by omega
            have HOq2 : Hid (wq.ownsRow w.heap.size 5 1 u3 (c + 1) (wv8 (240 :: (o ++ [Y])))) := Lib.hid (by rw [← hox, ← hcx]; exact HOq.out)
            clear g1 g2 hn HCQ hbx hox hcx
            go_wp2_with fail
            go_roundw
            case rel => exact ⟨i + 1, c + 1, o ++ [Y], Z, 0, by omega, by go_num, by rw [hbi], by go_num, by decide, by decide, by omega, by omega, HST, HOq2, HBq⟩
            case measure => simp [intOf]; omega
      · have hXb : X < 1024 := by rw [hn] at hXb2; simpa using hXb2
        -- n = 4: n + 6 = 10, behind it 2; 2 ^ 2 = 4; the mask 3
        have hni : (n : Int) = 4 := by omega
        obtain ⟨Y, hY⟩ : ∃ Y, Y = X / 4 := ⟨_, rfl⟩
        obtain ⟨Z, hZ⟩ : ∃ Z, Z = X % 4 := ⟨_, rfl⟩
        have hYb : Y < 256 := by rw [hY]; have := hXb; omega
        have hZb : Z < 4 := by rw [hZ]; exact Nat.mod_lt _ (by decide)
        have g1 : (X : Int) / 4 = (Y : Int) := by omega
        have g2 : bits .and .i64 (X : Int) 3 = (Z : Int) := by rw [hZ]; exact and_mask X 3 2 (by omega) (by decide) (by decide)
        have HST : Hid (sixF ((ediC s.data.toList).take (i + 1)) = (o ++ [Y], Z, 2)) := Lib.hid (by
          rw [HTK.out, sixF_snoc, ← HF.out]
          unfold sixStep
          dsimp only
          rw [hn, if_pos (by decide), hY, hZ, hX])
        rw [hni]
        clear hY hZ hX hn HF HTK hni
        have f0 := HW0.out
        go_wp2_with fail
        (try clear f0)
        go_loopw [3, 4, 5] (fun ov bv nv wr => ∃ (o2 : List Nat) (c2 b2 n2 : Nat), bv = .int .i64 (b2 : Int) ∧ nv = .int .i64 (n2 : Int) ∧ Hid (wr.ownsRow w.heap.size 5 1 ov c2 (wv8 (240 :: o2))) ∧ Hid ((n2 = 10 ∧ b2 = X ∧ o2 = o ∧ c2 = c) ∨ (n2 = 2 ∧ b2 = Z ∧ o2 = o ++ [Y] ∧ c2 = c + 1)) ∧ Hid (Below w.heap.size w wr)) (fun _ _ nv _ => (intOf nv).toNat)
        case atStart => exact ⟨o, c, X, 10, rfl, rfl, HO, Lib.hid (.inl ⟨rfl, rfl, rfl, rfl⟩), HB⟩
        case round =>
          clear HO HB
          rename World => wq
          obtain ⟨o2, c2, b2, n2, rfl, rfl, HOq, HCQ, HBq⟩ := hrel
          rcases HCQ.out with ⟨hn, hbx, hox, hcx⟩ | ⟨hn, hbx, hox, hcx⟩
          · have hni : (n2 : Int) = 10 := by omega
            have hc2 : c2 ≤ i + 2 := by omega
            have hbi : (b2 : Int) = (X : Int) := by omega
            have HOX : Hid (240 :: o2 ++ [Y] = 240 :: (o ++ [Y]) ∧ c2 + 1 = c + 1) := Lib.hid ⟨by rw [hox]; rfl, by omega⟩
            clear hn HCQ hbx hox hcx
            -- the word Y is appended: 40 slot, 240 :: o2 list, c2 count, q old, p new
            go_wp2_with (with_reducible refine stop_at (o := ⟨some 40, _, _, _, _, _⟩) ?_)
            refine Lib.hid ?_
            have hob := own_up HOq.out (bal (brf wq) (.cells #[.int .u8 (Y : Int)] 5))
            refine list_app_rd _ rfl _ _ _ rfl w.heap.size 5 i0 _ 1 Tryd.underlying27 hi0 hz0 hz1 hz2 rfl _ (c2) _ rfl hob _ _ [.int .u8 (Y : Int)] rfl (Rd.one rfl _ _) (fun u hu => by simp at hu; subst hu; rfl) (by simp only [List.length_singleton]; unfold maxLen; omega) (by simp only [List.length_singleton]; omega) (by have := HBq.out.size; simp; omega) ?_
            intro vp wp ho1 hg1
            have HBp : Hid (Below w.heap.size w wp) := Lib.hid (below_grown (bal HBq.out _) hg1 hob (by have := HBq.out.size; simp; omega))
            have HOp : Hid (wp.ownsRow w.heap.size 5 1 vp (c2 + 1) (wv8 (240 :: o2 ++ [Y]))) := Lib.hid (by rw [wv8_app]; exact ho1)
            clear ho1 hg1 hob HOq HBq
            go_wp2_with fail
            go_roundw
            case rel => exact ⟨o ++ [Y], c + 1, Z, 2, rfl, rfl, Lib.hid (by rw [← HOX.out.1, ← HOX.out.2]; exact HOp.out), Lib.hid (.inr ⟨rfl, rfl, rfl, rfl⟩), HBp⟩
            case measure => simp [intOf]; omega
          · have hni : (n2 : Int) = 2 := by omega
            have hbi : (b2 : Int) = (Z : Int) := by omega
            have HOq2 : Hid (wq.ownsRow w.heap.size 5 1 u3 (c + 1) (wv8 (240 :: (o ++ [Y])))) := Lib.hid (by rw [← hox, ← hcx]; exact HOq.out)
            clear g1 g2 hn HCQ hbx hox hcx
            go_wp2_with fail
            go_roundw
            case rel => exact ⟨i + 1, c + 1, o ++ [Y], Z, 2, by omega, by go_num, by rw [hbi], by go_num, by decide, by decide, by omega, by omega, HST, HOq2, HBq⟩
            case measure => simp [intOf]; omega
      · have hXb : X < 4096 := by rw [hn] at hXb2; simpa using hXb2
        -- n = 6: n + 6 = 12, behind it 4; 2 ^ 4 = 16; the mask 15
        have hni : (n : Int) = 6 := by omega
        obtain ⟨Y, hY⟩ : ∃ Y, Y = X / 16 := ⟨_, rfl⟩
        obtain ⟨Z, hZ⟩ : ∃ Z, Z = X % 16 := ⟨_, rfl⟩
        have hYb : Y < 256 := by rw [hY]; have := hXb; omega
        have hZb : Z < 16 := by rw [hZ]; exact Nat.mod_lt _ (by decide)
        have g1 : (X : Int) / 16 = (Y : Int) := by omega
        have g2 : bits .and .i64 (X : Int) 15 = (Z : Int) := by rw [hZ]; exact and_mask X 15 4 (by omega) (by decide) (by decide)
        have HST : Hid (sixF ((ediC s.data.toList).take (i + 1)) = (o ++ [Y], Z, 4)) := Lib.hid (by
          rw [HTK.out, sixF_snoc, ← HF.out]
          unfold sixStep
          dsimp only
          rw [hn, if_pos (by decide), hY, hZ, hX])
        rw [hni]
        clear hY hZ hX hn HF HTK hni
        have f0 := HW0.out
        go_wp2_with fail
        (try clear f0)
        go_loopw [3, 4, 5] (fun ov bv nv wr => ∃ (o2 : List Nat) (c2 b2 n2 : Nat), bv = .int .i64 (b2 : Int) ∧ nv = .int .i64 (n2 : Int) ∧ Hid (wr.ownsRow w.heap.size 5 1 ov c2 (wv8 (240 :: o2))) ∧ Hid ((n2 = 12 ∧ b2 = X ∧ o2 = o ∧ c2 = c) ∨ (n2 = 4 ∧ b2 = Z ∧ o2 = o ++ [Y] ∧ c2 = c + 1)) ∧ Hid (Below w.heap.size w wr)) (fun _ _ nv _ => (intOf nv).toNat)
        case atStart => exact ⟨o, c, X, 12, rfl, rfl, HO, Lib.hid (.inl ⟨rfl, rfl, rfl, rfl⟩), HB⟩
        case round =>
          clear HO HB
          rename World => wq
          obtain ⟨o2, c2, b2, n2, rfl, rfl, HOq, HCQ, HBq⟩ := hrel
          rcases HCQ.out with ⟨hn, hbx, hox, hcx⟩ | ⟨hn, hbx, hox, hcx⟩
          · have hni : (n2 : Int) = 12 := by omega
            have hc2 : c2 ≤ i + 2 := by omega
            have hbi : (b2 : Int) = (X : Int) := by omega
            have HOX : Hid (240 :: o2 ++ [Y] = 240 :: (o ++ [Y]) ∧ c2 + 1 = c + 1) := Lib.hid ⟨by rw [hox]; rfl, by omega⟩
            clear hn HCQ hbx hox hcx
            -- the word Y is appended: 40 slot, 240 :: o2 list, c2 count, q old, p new
            go_wp2_with (with_reducible refine stop_at (o := ⟨some 40, _, _, _, _, _⟩) ?_)
            refine Lib.hid ?_
            have hob := own_up HOq.out (bal (brf wq) (.cells #[.int .u8 (Y : Int)] 5))
            refine list_app_rd _ rfl _ _ _ rfl w.heap.size 5 i0 _ 1 Tryd.underlying27 hi0 hz0 hz1 hz2 rfl _ (c2) _ rfl hob _ _ [.int .u8 (Y : Int)] rfl (Rd.one rfl _ _) (fun u hu => by simp at hu; subst hu; rfl) (by simp only [List.length_singleton]; unfold maxLen; omega) (by simp only [List.length_singleton]; omega) (by have := HBq.out.size; simp; omega) ?_
            intro vp wp ho1 hg1
            have HBp : Hid (Below w.heap.size w wp) := Lib.hid (below_grown (bal HBq.out _) hg1 hob (by have := HBq.out.size; simp; omega))
            have HOp : Hid (wp.ownsRow w.heap.size 5 1 vp (c2 + 1) (wv8 (240 :: o2 ++ [Y]))) := Lib.hid (by rw [wv8_app]; exact ho1)
            clear ho1 hg1 hob HOq HBq
            go_wp2_with fail
            go_roundw
            case rel => exact ⟨o ++ [Y], c + 1, Z, 4, rfl, rfl, Lib.hid (by rw [← HOX.out.1, ← HOX.out.2]; exact HOp.out), Lib.hid (.inr ⟨rfl, rfl, rfl, rfl⟩), HBp⟩
            case measure => simp [intOf]; omega
          · have hni : (n2 : Int) = 4 := by omega
            have hbi : (b2 : Int) = (Z : Int) := by omega
            have HOq2 : Hid (wq.ownsRow w.heap.size 5 1 u3 (c + 1) (wv8 (240 :: (o ++ [Y])))) := Lib.hid (by rw [← hox, ← hcx]; exact HOq.out)
            clear g1 g2 hn HCQ hbx hox hcx
            go_wp2_with fail
            go_roundw
            case rel => exact ⟨i + 1, c + 1, o ++ [Y], Z, 4, by omega, by go_num, by rw [hbi], by go_num, by decide, by decide, by omega, by omega, HST, HOq2, HBq⟩
            case measure => simp [intOf]; omega
    · by_cases hie : i = s.size
      · have hle : i ≤ s.size := by omega
        have hle2 : (i : Int) ≤ (s.size : Int) := by omega
        have hlt2 : ¬ (i : Int) < (s.size : Int) := by omega
        obtain ⟨x, hx⟩ : ∃ x, x = 31 := ⟨_, rfl⟩
        have HTK : Hid ((ediC s.data.toList).take (i + 1) = (ediC s.data.toList).take i ++ [x]) := Lib.hid (by rw [hx, hie]; exact ediC_end s)
        have hx64 : x < 64 := by omega
        have hxi : (x : Int) = 31 := by omega
        clear hx HF0 hie
        -- the value x is there: the walk goes on
        obtain ⟨X, hX⟩ : ∃ X, X = b * 64 + x := ⟨_, rfl⟩
        obtain ⟨b6, hb6⟩ : ∃ y, y = b * 64 := ⟨_, rfl⟩
        have f1 : (b : Int) * 64 = (b6 : Int) := by omega
        have f2 : bits .or .i64 (b6 : Int) (x : Int) = (X : Int) := by
          rw [i64_or b6 x (by omega) (by omega), hb6, hX]
          exact congrArg _ (or_add b x 6 (by omega))
        have hXb : X < 4096 := by omega
        have hXb2 : X < 2 ^ n * 64 := by
          rw [hX]
          have h9 := hb
          generalize 2 ^ n = Q at *
          omega
        clear hb6
        have hn4 : n = 0 ∨ n = 2 ∨ n = 4 ∨ n = 6 := by omega
        rcases hn4 with hn | hn | hn | hn
        · have hni : (n : Int) = 0 := by omega
          have HST : Hid (sixF ((ediC s.data.toList).take (i + 1)) = (o, X, 6)) := Lib.hid (by
            rw [HTK.out, sixF_snoc, ← HF.out]
            unfold sixStep
            dsimp only
            rw [hn, if_neg (by decide), hX])
          rw [hn] at hXb2
          rw [hni]
          clear hX hn HF HTK hni
          rw [hxi] at f2
          go_wp2_with fail
          (try clear f0)
          go_loopw [3, 4, 5] (fun ov bv nv wr => ov = u3 ∧ bv = .int .i64 (X : Int) ∧ nv = .int .i64 6 ∧ Hid (wr.ownsRow w.heap.size 5 1 ov c (wv8 (240 :: o))) ∧ Hid (Below w.heap.size w wr)) (fun _ _ nv _ => (intOf nv).toNat)
          case atStart => exact ⟨rfl, rfl, rfl, HO, HB⟩
          case round =>
            clear HO HB
            rename World => wq
            obtain ⟨rfl, rfl, rfl, HOq, HBq⟩ := hrel
            go_wp2_with fail
            go_roundw
            case rel => exact ⟨i + 1, c, o, X, 6, by omega, by go_num, rfl, by go_num, by decide, by decide, by simpa using hXb2, by omega, HST, HOq, HBq⟩
            case measure => simp [intOf]; omega
        · have hXb : X < 256 := by rw [hn] at hXb2; simpa using hXb2
          -- n = 2: n + 6 = 8, behind it 0; 2 ^ 0 = 1; the mask 0
          have hni : (n : Int) = 2 := by omega
          obtain ⟨Y, hY⟩ : ∃ Y, Y = X / 1 := ⟨_, rfl⟩
          obtain ⟨Z, hZ⟩ : ∃ Z, Z = X % 1 := ⟨_, rfl⟩
          have hYb : Y < 256 := by rw [hY]; have := hXb; omega
          have hZb : Z < 1 := by rw [hZ]; exact Nat.mod_lt _ (by decide)
          have g1 : (X : Int) / 1 = (Y : Int) := by omega
          have g2 : bits .and .i64 (X : Int) 0 = (Z : Int) := by rw [hZ]; exact and_mask X 0 0 (by omega) (by decide) (by decide)
          have HST : Hid (sixF ((ediC s.data.toList).take (i + 1)) = (o ++ [Y], Z, 0)) := Lib.hid (by
            rw [HTK.out, sixF_snoc, ← HF.out]
            unfold sixStep
            dsimp only
            rw [hn, if_pos (by decide), hY, hZ, hX])
          rw [hni]
          clear hY hZ hX hn HF HTK hni
          rw [hxi] at f2
          go_wp2_with fail
          (try clear f0)
          go_loopw [3, 4, 5] (fun ov bv nv wr => ∃ (o2 : List Nat) (c2 b2 n2 : Nat), bv = .int .i64 (b2 : Int) ∧ nv = .int .i64 (n2 : Int) ∧ Hid (wr.ownsRow w.heap.size 5 1 ov c2 (wv8 (240 :: o2))) ∧ Hid ((n2 = 8 ∧ b2 = X ∧ o2 = o ∧ c2 = c) ∨ (n2 = 0 ∧ b2 = Z ∧ o2 = o ++ [Y] ∧ c2 = c + 1)) ∧ Hid (Below w.heap.size w wr)) (fun _ _ nv _ => (intOf nv).toNat)
          case atStart => exact ⟨o, c, X, 8, rfl, rfl, HO, Lib.hid (.inl ⟨rfl, rfl, rfl, rfl⟩), HB⟩
          case round =>
            clear HO HB
            rename World => wq
            obtain ⟨o2, c2, b2, n2, rfl, rfl, HOq, HCQ, HBq⟩ := hrel
            rcases HCQ.out with ⟨hn, hbx, hox, hcx⟩ | ⟨hn, hbx, hox, hcx⟩
            · have hni : (n2 : Int) = 8 := by omega
              have hc2 : c2 ≤ i + 2 := by omega
              have hbi : (b2 : Int) = (X : Int) := by omega
              have HOX : Hid (240 :: o2 ++ [Y] = 240 :: (o ++ [Y]) ∧ c2 + 1 = c + 1) := Lib.hid ⟨by rw [hox]; rfl, by omega⟩
              clear hn HCQ hbx hox hcx
              -- the word Y is appended: 40 slot, 240 :: o2 list, c2 count, q old, p new
              go_wp2_with (with_reducible refine stop_at (o := ⟨some 40, _, _, _, _, _⟩) ?_)
              refine Lib.hid ?_
              have hob := own_up HOq.out (bal (brf wq) (.cells #[.int .u8 (Y : Int)] 5))
              refine list_app_rd _ rfl _ _ _ rfl w.heap.size 5 i0 _ 1 Tryd.underlying27 hi0 hz0 hz1 hz2 rfl _ (c2) _ rfl hob _ _ [.int .u8 (Y : Int)] rfl (Rd.one rfl _ _) (fun u hu => by simp at hu; subst hu; rfl) (by simp only [List.length_singleton]; unfold maxLen; omega) (by simp only [List.length_singleton]; omega) (by have := HBq.out.size; simp; omega) ?_
              intro vp wp ho1 hg1
              have HBp : Hid (Below w.heap.size w wp) := Lib.hid (below_grown (bal HBq.out _) hg1 hob (by have := HBq.out.size; simp; omega))
              have HOp : Hid (wp.ownsRow w.heap.size 5 1 vp (c2 + 1) (wv8 (240 :: o2 ++ [Y]))) := Lib.hid (by rw [wv8_app]; exact ho1)
              clear ho1 hg1 hob HOq HBq
              go_wp2_with fail
              go_roundw
              case rel => exact ⟨o ++ [Y], c + 1, Z, 0, rfl, rfl, Lib.hid (by rw [← HOX.out.1, ← HOX.out.2]; exact HOp.out), Lib.hid (.inr ⟨rfl, rfl, rfl, rfl⟩), HBp⟩
              case measure => simp [intOf]; omega
            · have hni : (n2 : Int) = 0 := by omega
              have hbi : (b2 : Int) = (Z : Int) := by omega
              have HOq2 : Hid (wq.ownsRow w.heap.size 5 1 u3 (c + 1) (wv8 (240 :: (o ++ [Y])))) := Lib.hid (by rw [← hox, ← hcx]; exact HOq.out)
              clear g1 g2 hn HCQ hbx hox hcx
              go_wp2_with fail
              go_roundw
              case rel => exact ⟨i + 1, c + 1, o ++ [Y], Z, 0, by omega, by go_num, by rw [hbi], by go_num, by decide, by decide, by omega, by omega, HST, HOq2, HBq⟩
              case measure => simp [intOf]; omega
        · have hXb : X < 1024 := by rw [hn] at hXb2; simpa using hXb2
          -- n = 4: n + 6 = 10, behind it 2; 2 ^ 2 = 4; the mask 3
          have hni : (n : Int) = 4 := by omega
          obtain ⟨Y, hY⟩ : ∃ Y, Y = X / 4 := ⟨_, rfl⟩
          obtain ⟨Z, hZ⟩ : ∃ Z, Z = X % 4 := ⟨_, rfl⟩
          have hYb : Y < 256 := by rw [hY]; have := hXb; omega
          have hZb : Z < 4 := by rw [hZ]; exact Nat.mod_lt _ (by decide)
          have g1 : (X : Int) / 4 = (Y : Int) := by omega
          have g2 : bits .and .i64 (X : Int) 3 = (Z : Int) := by rw [hZ]; exact and_mask X 3 2 (by omega) (by decide) (by decide)
          have HST : Hid (sixF ((ediC s.data.toList).take (i + 1)) = (o ++ [Y], Z, 2)) := Lib.hid (by
            rw [HTK.out, sixF_snoc, ← HF.out]
            unfold sixStep
            dsimp only
            rw [hn, if_pos (by decide), hY, hZ, hX])
          rw [hni]
          clear hY hZ hX hn HF HTK hni
          rw [hxi] at f2
          go_wp2_with fail
          (try clear f0)
          go_loopw [3, 4, 5] (fun ov bv nv wr => ∃ (o2 : List Nat) (c2 b2 n2 : Nat), bv = .int .i64 (b2 : Int) ∧ nv = .int .i64 (n2 : Int) ∧ Hid (wr.ownsRow w.heap.size 5 1 ov c2 (wv8 (240 :: o2))) ∧ Hid ((n2 = 10 ∧ b2 = X ∧ o2 = o ∧ c2 = c) ∨ (n2 = 2 ∧ b2 = Z ∧ o2 = o ++ [Y] ∧ c2 = c + 1)) ∧ Hid (Below w.heap.size w wr)) (fun _ _ nv _ => (intOf nv).toNat)
          case atStart => exact ⟨o, c, X, 10, rfl, rfl, HO, Lib.hid (.inl ⟨rfl, rfl, rfl, rfl⟩), HB⟩
          case round =>
            clear HO HB
            rename World => wq
            obtain ⟨o2, c2, b2, n2, rfl, rfl, HOq, HCQ, HBq⟩ := hrel
            rcases HCQ.out with ⟨hn, hbx, hox, hcx⟩ | ⟨hn, hbx, hox, hcx⟩
            · have hni : (n2 : Int) = 10 := by omega
              have hc2 : c2 ≤ i + 2 := by omega
              have hbi : (b2 : Int) = (X : Int) := by omega
              have HOX : Hid (240 :: o2 ++ [Y] = 240 :: (o ++ [Y]) ∧ c2 + 1 = c + 1) := Lib.hid ⟨by rw [hox]; rfl, by omega⟩
              clear hn HCQ hbx hox hcx
              -- the word Y is appended: 40 slot, 240 :: o2 list, c2 count, q old, p new
              go_wp2_with (with_reducible refine stop_at (o := ⟨some 40, _, _, _, _, _⟩) ?_)
              refine Lib.hid ?_
              have hob := own_up HOq.out (bal (brf wq) (.cells #[.int .u8 (Y : Int)] 5))
              refine list_app_rd _ rfl _ _ _ rfl w.heap.size 5 i0 _ 1 Tryd.underlying27 hi0 hz0 hz1 hz2 rfl _ (c2) _ rfl hob _ _ [.int .u8 (Y : Int)] rfl (Rd.one rfl _ _) (fun u hu => by simp at hu; subst hu; rfl) (by simp only [List.length_singleton]; unfold maxLen; omega) (by simp only [List.length_singleton]; omega) (by have := HBq.out.size; simp; omega) ?_
              intro vp wp ho1 hg1
              have HBp : Hid (Below w.heap.size w wp) := Lib.hid (below_grown (bal HBq.out _) hg1 hob (by have := HBq.out.size; simp; omega))
              have HOp : Hid (wp.ownsRow w.heap.size 5 1 vp (c2 + 1) (wv8 (240 :: o2 ++ [Y]))) := Lib.hid (by rw [wv8_app]; exact ho1)
              clear ho1 hg1 hob HOq HBq
              go_wp2_with fail
              go_roundw
              case rel => exact ⟨o ++ [Y], c + 1, Z, 2, rfl, rfl, Lib.hid (by rw [← HOX.out.1, ← HOX.out.2]; exact HOp.out), Lib.hid (.inr ⟨rfl, rfl, rfl, rfl⟩), HBp⟩
              case measure => simp [intOf]; omega
            · have hni : (n2 : Int) = 2 := by omega
              have hbi : (b2 : Int) = (Z : Int) := by omega
              have HOq2 : Hid (wq.ownsRow w.heap.size 5 1 u3 (c + 1) (wv8 (240 :: (o ++ [Y])))) := Lib.hid (by rw [← hox, ← hcx]; exact HOq.out)
              clear g1 g2 hn HCQ hbx hox hcx
              go_wp2_with fail
              go_roundw
              case rel => exact ⟨i + 1, c + 1, o ++ [Y], Z, 2, by omega, by go_num, by rw [hbi], by go_num, by decide, by decide, by omega, by omega, HST, HOq2, HBq⟩
              case measure => simp [intOf]; omega
        · have hXb : X < 4096 := by rw [hn] at hXb2; simpa using hXb2
          -- n = 6: n + 6 = 12, behind it 4; 2 ^ 4 = 16; the mask 15
          have hni : (n : Int) = 6 := by omega
          obtain ⟨Y, hY⟩ : ∃ Y, Y = X / 16 := ⟨_, rfl⟩
          obtain ⟨Z, hZ⟩ : ∃ Z, Z = X % 16 := ⟨_, rfl⟩
          have hYb : Y < 256 := by rw [hY]; have := hXb; omega
          have hZb : Z < 16 := by rw [hZ]; exact Nat.mod_lt _ (by decide)
          have g1 : (X : Int) / 16 = (Y : Int) := by omega
          have g2 : bits .and .i64 (X : Int) 15 = (Z : Int) := by rw [hZ]; exact and_mask X 15 4 (by omega) (by decide) (by decide)
          have HST : Hid (sixF ((ediC s.data.toList).take (i + 1)) = (o ++ [Y], Z, 4)) := Lib.hid (by
            rw [HTK.out, sixF_snoc, ← HF.out]
            unfold sixStep
            dsimp only
            rw [hn, if_pos (by decide), hY, hZ, hX])
          rw [hni]
          clear hY hZ hX hn HF HTK hni
          rw [hxi] at f2
          go_wp2_with fail
          (try clear f0)
          go_loopw [3, 4, 5] (fun ov bv nv wr => ∃ (o2 : List Nat) (c2 b2 n2 : Nat), bv = .int .i64 (b2 : Int) ∧ nv = .int .i64 (n2 : Int) ∧ Hid (wr.ownsRow w.heap.size 5 1 ov c2 (wv8 (240 :: o2))) ∧ Hid ((n2 = 12 ∧ b2 = X ∧ o2 = o ∧ c2 = c) ∨ (n2 = 4 ∧ b2 = Z ∧ o2 = o ++ [Y] ∧ c2 = c + 1)) ∧ Hid (Below w.heap.size w wr)) (fun _ _ nv _ => (intOf nv).toNat)
          case atStart => exact ⟨o, c, X, 12, rfl, rfl, HO, Lib.hid (.inl ⟨rfl, rfl, rfl, rfl⟩), HB⟩
          case round =>
            clear HO HB
            rename World => wq
            obtain ⟨o2, c2, b2, n2, rfl, rfl, HOq, HCQ, HBq⟩ := hrel
            rcases HCQ.out with ⟨hn, hbx, hox, hcx⟩ | ⟨hn, hbx, hox, hcx⟩
            · have hni : (n2 : Int) = 12 := by omega
              have hc2 : c2 ≤ i + 2 := by omega
              have hbi : (b2 : Int) = (X : Int) := by omega
              have HOX : Hid (240 :: o2 ++ [Y] = 240 :: (o ++ [Y]) ∧ c2 + 1 = c + 1) := Lib.hid ⟨by rw [hox]; rfl, by omega⟩
              clear hn HCQ hbx hox hcx
              -- the word Y is appended: 40 slot, 240 :: o2 list, c2 count, q old, p new
              go_wp2_with (with_reducible refine stop_at (o := ⟨some 40, _, _, _, _, _⟩) ?_)
              refine Lib.hid ?_
              have hob := own_up HOq.out (bal (brf wq) (.cells #[.int .u8 (Y : Int)] 5))
              refine list_app_rd _ rfl _ _ _ rfl w.heap.size 5 i0 _ 1 Tryd.underlying27 hi0 hz0 hz1 hz2 rfl _ (c2) _ rfl hob _ _ [.int .u8 (Y : Int)] rfl (Rd.one rfl _ _) (fun u hu => by simp at hu; subst hu; rfl) (by simp only [List.length_singleton]; unfold maxLen; omega) (by simp only [List.length_singleton]; omega) (by have := HBq.out.size; simp; omega) ?_
              intro vp wp ho1 hg1
              have HBp : Hid (Below w.heap.size w wp) := Lib.hid (below_grown (bal HBq.out _) hg1 hob (by have := HBq.out.size; simp; omega))
              have HOp : Hid (wp.ownsRow w.heap.size 5 1 vp (c2 + 1) (wv8 (240 :: o2 ++ [Y]))) := Lib.hid (by rw [wv8_app]; exact ho1)
              clear ho1 hg1 hob HOq HBq
              go_wp2_with fail
              go_roundw
              case rel => exact ⟨o ++ [Y], c + 1, Z, 4, rfl, rfl, Lib.hid (by rw [← HOX.out.1, ← HOX.out.2]; exact HOp.out), Lib.hid (.inr ⟨rfl, rfl, rfl, rfl⟩), HBp⟩
              case measure => simp [intOf]; omega
            · have hni : (n2 : Int) = 4 := by omega
              have hbi : (b2 : Int) = (Z : Int) := by omega
              have HOq2 : Hid (wq.ownsRow w.heap.size 5 1 u3 (c + 1) (wv8 (240 :: (o ++ [Y])))) := Lib.hid (by rw [← hox, ← hcx]; exact HOq.out)
              clear g1 g2 hn HCQ hbx hox hcx
              go_wp2_with fail
              go_roundw
              case rel => exact ⟨i + 1, c + 1, o ++ [Y], Z, 4, by omega, by go_num, by rw [hbi], by go_num, by decide, by decide, by omega, by omega, HST, HOq2, HBq⟩
              case measure => simp [intOf]; omega
      · have hle2 : ¬ (i : Int) ≤ (s.size : Int) := by omega
        have hfull : (ediC s.data.toList).take i = ediC s.data.toList := List.take_of_length_le (by rw [ediC_len]; simp; omega)
        have HW : Hid (sixW (ediC s.data.toList) = if 0 < n then o ++ [b * 2 ^ (8 - n)] else o) := Lib.hid (by
          unfold sixW
          rw [hfull] at HF0
          rw [HF0.out])
        clear hfull HF0 HF
        have hn4 : n = 0 ∨ n = 2 ∨ n = 4 ∨ n = 6 := by omega
        rcases hn4 with hn | hn | hn | hn
        · have hni : (n : Int) = 0 := by omega
          have HOF : Hid (RdT wr 5 u3 (wv8 (240 :: sixW (ediC s.data.toList)))) := Lib.hid (by
            rw [HW.out, if_neg (by omega)]; exact RdT.of_own HO.out)
          rw [hni]
          clear hni hn HO HW
          go_wp2_with fail
          go_ret
          exact ⟨_, rfl, HOF.out, HB.out⟩
        · -- n = 2 at the end; 2 ^ (8 - n) = 64
          have hni : (n : Int) = 2 := by omega
          obtain ⟨Y, hY⟩ : ∃ Y, Y = b * 64 := ⟨_, rfl⟩
          rw [hn] at hb
          have hYb : Y < 256 := by rw [hY]; omega
          have g1 : (b : Int) * 64 = (Y : Int) := by omega
          have HWY : Hid (sixW (ediC s.data.toList) = o ++ [Y]) := Lib.hid (by
            rw [HW.out, if_pos (by omega), hn, hY])
          rw [hni]
          clear hni hn hY HW
          have HOr := HO
          have HBr := HB
          clear HO HB
          -- the word Y is appended: 55 slot, 240 :: o list, c count, r old, q new
          go_wp2_with (with_reducible refine stop_at (o := ⟨some 55, _, _, _, _, _⟩) ?_)
          refine Lib.hid ?_
          have hob := own_up HOr.out (bal (brf wr) (.cells #[.int .u8 (Y : Int)] 5))
          refine list_app_rd _ rfl _ _ _ rfl w.heap.size 5 i0 _ 1 Tryd.underlying27 hi0 hz0 hz1 hz2 rfl _ (c) _ rfl hob _ _ [.int .u8 (Y : Int)] rfl (Rd.one rfl _ _) (fun u hu => by simp at hu; subst hu; rfl) (by simp only [List.length_singleton]; unfold maxLen; omega) (by simp only [List.length_singleton]; omega) (by have := HBr.out.size; simp; omega) ?_
          intro vq wq ho1 hg1
          have HBq : Hid (Below w.heap.size w wq) := Lib.hid (below_grown (bal HBr.out _) hg1 hob (by have := HBr.out.size; simp; omega))
          have HOq : Hid (wq.ownsRow w.heap.size 5 1 vq (c + 1) (wv8 (240 :: o ++ [Y]))) := Lib.hid (by rw [wv8_app]; exact ho1)
          clear ho1 hg1 hob HOr HBr
          have HOF : Hid (RdT wq 5 vq (wv8 (240 :: sixW (ediC s.data.toList)))) := Lib.hid (by
            rw [HWY.out]; exact RdT.of_own HOq.out)
          clear HOq HWY
          go_wp2_with fail
          go_ret
          exact ⟨_, rfl, HOF.out, HBq.out⟩
        · -- n = 4 at the end; 2 ^ (8 - n) = 16
          have hni : (n : Int) = 4 := by omega
          obtain ⟨Y, hY⟩ : ∃ Y, Y = b * 16 := ⟨_, rfl⟩
          rw [hn] at hb
          have hYb : Y < 256 := by rw [hY]; omega
          have g1 : (b : Int) * 16 = (Y : Int) := by omega
          have HWY : Hid (sixW (ediC s.data.toList) = o ++ [Y]) := Lib.hid (by
            rw [HW.out, if_pos (by omega), hn, hY])
          rw [hni]
          clear hni hn hY HW
          have HOr := HO
          have HBr := HB
          clear HO HB
          -- the word Y is appended: 55 slot, 240 :: o list, c count, r old, q new
          go_wp2_with (with_reducible refine stop_at (o := ⟨some 55, _, _, _, _, _⟩) ?_)
          refine Lib.hid ?_
          have hob := own_up HOr.out (bal (brf wr) (.cells #[.int .u8 (Y : Int)] 5))
          refine list_app_rd _ rfl _ _ _ rfl w.heap.size 5 i0 _ 1 Tryd.underlying27 hi0 hz0 hz1 hz2 rfl _ (c) _ rfl hob _ _ [.int .u8 (Y : Int)] rfl (Rd.one rfl _ _) (fun u hu => by simp at hu; subst hu; rfl) (by simp only [List.length_singleton]; unfold maxLen; omega) (by simp only [List.length_singleton]; omega) (by have := HBr.out.size; simp; omega) ?_
          intro vq wq ho1 hg1
          have HBq : Hid (Below w.heap.size w wq) := Lib.hid (below_grown (bal HBr.out _) hg1 hob (by have := HBr.out.size; simp; omega))
          have HOq : Hid (wq.ownsRow w.heap.size 5 1 vq (c + 1) (wv8 (240 :: o ++ [Y]))) := Lib.hid (by rw [wv8_app]; exact ho1)
          clear ho1 hg1 hob HOr HBr
          have HOF : Hid (RdT wq 5 vq (wv8 (240 :: sixW (ediC s.data.toList)))) := Lib.hid (by
            rw [HWY.out]; exact RdT.of_own HOq.out)
          clear HOq HWY
          go_wp2_with fail
          go_ret
          exact ⟨_, rfl, HOF.out, HBq.out⟩
        · -- n = 6 at the end; 2 ^ (8 - n) = 4
          have hni : (n : Int) = 6 := by omega
          obtain ⟨Y, hY⟩ : ∃ Y, Y = b * 4 := ⟨_, rfl⟩
          rw [hn] at hb
          have hYb : Y < 256 := by rw [hY]; omega
          have g1 : (b : Int) * 4 = (Y : Int) := by omega
          have HWY : Hid (sixW (ediC s.data.toList) = o ++ [Y]) := Lib.hid (by
            rw [HW.out, if_pos (by omega), hn, hY])
          rw [hni]
          clear hni hn hY HW
          have HOr := HO
          have HBr := HB
          clear HO HB
          -- the word Y is appended: 55 slot, 240 :: o list, c count, r old, q new
          go_wp2_with (with_reducible refine stop_at (o := ⟨some 55, _, _, _, _, _⟩) ?_)
          refine Lib.hid ?_
          have hob := own_up HOr.out (bal (brf wr) (.cells #[.int .u8 (Y : Int)] 5))
          refine list_app_rd _ rfl _ _ _ rfl w.heap.size 5 i0 _ 1 Tryd.underlying27 hi0 hz0 hz1 hz2 rfl _ (c) _ rfl hob _ _ [.int .u8 (Y : Int)] rfl (Rd.one rfl _ _) (fun u hu => by simp at hu; subst hu; rfl) (by simp only [List.length_singleton]; unfold maxLen; omega) (by simp only [List.length_singleton]; omega) (by have := HBr.out.size; simp; omega) ?_
          intro vq wq ho1 hg1
          have HBq : Hid (Below w.heap.size w wq) := Lib.hid (below_grown (bal HBr.out _) hg1 hob (by have := HBr.out.size; simp; omega))
          have HOq : Hid (wq.ownsRow w.heap.size 5 1 vq (c + 1) (wv8 (240 :: o ++ [Y]))) := Lib.hid (by rw [wv8_app]; exact ho1)
          clear ho1 hg1 hob HOr HBr
          have HOF : Hid (RdT wq 5 vq (wv8 (240 :: sixW (ediC s.data.toList)))) := Lib.hid (by
            rw [HWY.out]; exact RdT.of_own HOq.out)
          clear HOq HWY
          go_wp2_with fail
          go_ret
          exact ⟨_, rfl, HOF.out, HBq.out⟩
end Go.Proofs.YtjpcajecmfhppaaDoor
