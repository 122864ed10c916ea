/-
  WALKS: ParseStringToBitMatrix, impl.GridParse.
-/
import Derived.Test.YtbfkjfgjeaofpaaTe4
namespace Go.Proofs.Ytbfkjfgjeaofpaa
open Go.RowKit

/-- Where the reading stands: ahead of column x of row y. -/
structure ParseS (S s u : ByteArray) (rows : List (List Bool)) (W g N B : Nat) (w0 wr : World) (y x m pos : Nat) (r : Int) : Prop where
  mul : m = y * W
  rest : S.data.toList.drop pos = restL s u (ofL [10]) rows y x
  len : (y = 0 ∧ r = -1) ∨ (0 < y ∧ r = W)
  blk : Blk wr g 4 (bv (fillA rows.flatten false N (m + x))).toArray
  below : Below B w0 wr

set_option maxRecDepth 100000 in
set_option maxHeartbeats 2000000 in
theorem parse_any (S s u : ByteArray) (rows : List (List Bool)) (W H : Nat) (a b : UInt8) (s' u' : List UInt8) (w : World) (hS : S.data.toList = textL s u (ofL [10]) rows) (hs : s.data.toList = a :: s') (hu : u.data.toList = b :: u') (hab : a ≠ b)
    (ha1 : ((a.toNat : Int) == 10) = false) (ha2 : ((a.toNat : Int) == 13) = false) (hb1 : ((b.toNat : Int) == 10) = false) (hb2 : ((b.toNat : Int) == 13) = false) (hr : ∀ r ∈ rows, r.length = W) (hH : rows.length = H) (hW1 : 1 ≤ W) (hH1 : 1 ≤ H) (hW : W ≤ 70) (hH7 : H ≤ 70) (hs3 : s.size ≤ 3) (hu3 : u.size ≤ 3) :
    Calls Try.prog 29 #[.string S, .string s, .string u] w fun e w' => ∃ p g, e = .returned (.tuple #[.pointer (some ⟨p, 0, none⟩), .nilIface]) ∧ MatAt w' p g W H (bitOf rows) ∧ w.heap.size ≤ p ∧ w.heap.size ≤ g ∧ Below w.heap.size w w' := by
  have hs1 : 1 ≤ s.size := by have : s.data.toList.length = s.size := by simp
                              rw [hs] at this; simp at this; omega
  have hu1 : 1 ≤ u.size := by have : u.data.toList.length = u.size := by simp
                              rw [hu] at this; simp at this; omega
  have hSl : S.data.toList.length = S.size := by simp
  have hN1 : S.size ≤ 14910 := by
    rw [← hSl, hS]
    refine Nat.le_trans (textL_le s u (ofL [10]) rows 3 W hs3 hu3 (by rw [ofL_size]; decide) hr) ?_
    exact Nat.le_trans (Nat.mul_le_mul (by omega : 3 * W + 3 ≤ 213) (by omega : rows.length ≤ 70)) (by decide)
  have hN2 : rows.flatten.length ≤ S.size := by
    rw [← hSl, hS, flat_len rows W hr]; exact textL_ge s u _ rows W hr hs1 hu1
  have hfl := flat_len rows W hr
  rw [hH] at hfl
  have hSe : S.toList.isEmpty = false := by
    rw [ByteArray.toList_eq, hS]
    rcases rows with _ | ⟨r, rows⟩
    · simp at hH; omega
    · rw [textL_cons]
      have : (ofL [10]).data.toList = [10] := ofL_data _
      rw [this]; simp
  have hHW : H * W ≤ 70 * 70 := Nat.mul_le_mul hH7 hW
  have hN3 : H * W ≤ S.size := by rw [← hfl]; exact hN2
  have HR := Lib.hid hr; have HS := Lib.hid hS; have HT := Lib.hid (And.intro hs hu); have HAB := Lib.hid hab; have HFL := Lib.hid hfl; have HHR := Lib.hid hH
  have hmk := fun x => mk_bools S.size x (by omega)
  have hrl : ∀ y, y < rows.length → (rows.getD y []).length = W := fun y hy => by rw [List.getD, List.getElem?_eq_getElem hy]; exact hr _ (List.getElem_mem hy)
  have HRL := Lib.hid hrl; clear hr hS hs hu hab hSl hfl hH hrl
  go_enter Try.func29, Try.ntmps29
  go_wp2_with fail
  clear hmk
  go_loopw [9, 10, 11, 12, 13] (fun bp rp rl nr pp wr => ∃ (y x m pos : Nat) (r : Int), y ≤ H ∧ x ≤ W ∧ (y = H → x = 0) ∧ bp = .int .i64 ((m + x : Nat) : Int) ∧ rp = .int .i64 m ∧ rl = .int .i64 r ∧ nr = .int .i64 y ∧ pp = .int .i64 pos ∧ pos ≤ S.size ∧ Hid (ParseS S s u rows W w.heap.size S.size w.heap.size w wr y x m pos r)) (fun _ _ _ _ pp _ => S.size - (intOf pp).toNat)
  case atStart =>
    refine ⟨0, 0, 0, 0, -1, Nat.zero_le _, Nat.zero_le _, fun h => rfl, rfl, rfl, rfl, rfl, rfl, Nat.zero_le _, Lib.hid ⟨by simp, ?_, .inl ⟨rfl, rfl⟩, ?_, bal (brf w) _⟩⟩
    · rw [restL_zero, List.drop_zero, List.drop_zero, HS.out]
    · rw [fill_zero]; exact Blk.fresh w _ _
  case round =>
    obtain ⟨y, x, m, pos, r, hy, hx, hyx, rfl, rfl, rfl, rfl, rfl, hpos, HP⟩ := hrel
    have hyx' : y = H → x = 0 := hyx
    have HYX := Lib.hid hyx; clear hyx hyx'
    by_cases hlt : y < H
    · have hyl : y < rows.length := by rw [HHR.out]; exact hlt
      have hrw := HRL.out y hyl
      by_cases hxl : x < W
      · have hst := restL_step s u (ofL [10]) rows y x hyl (by omega)
        have hmx : m + x < H * W := by
          have h1 := HP.out.mul
          have h2 : (y + 1) * W ≤ H * W := Nat.mul_le_mul_right W hlt
          rw [Nat.add_mul, Nat.one_mul] at h2
          omega
        have hfb : rows.flatten.getD (m + x) false = (rows.getD y []).getD x false := by rw [HP.out.mul]; exact flat_at rows W HR.out y x hyl hxl
        have hex := extract_rest S pos
        rw [HP.out.rest, hst] at hex
        have hcb : (bv (fillA rows.flatten false S.size (m + x))).toArray[m + x]? = some (.bool false) := by
          rw [List.getElem?_toArray]; unfold bv; rw [List.getElem?_map, fill_at_k _ _ _ _ (by omega) (by rw [HFL.out]; omega)]; rfl
        have c1 : wr.cell? ⟨w.heap.size, m + x, none⟩ = some (.bool false) := by rw [HP.out.blk.cell]; exact hcb
        have f1 : wr.frozen? ⟨w.heap.size, m + x, none⟩ = false := HP.out.blk.frozen _
        have hput : ∀ bb, (rows.getD y []).getD x false = bb → Blk (wr.setCell ⟨w.heap.size, m + x, none⟩ (.bool bb)) w.heap.size 4 (bv (fillA rows.flatten false S.size (m + (x + 1)))).toArray := fun bb hbb => by
          have := HP.out.blk.put (m + x) (.bool bb)
          rw [fill_getD _ _ _ (by rw [HFL.out]; exact hmx) hN2 bb (by rw [hfb, hbb])] at this
          exact this
        have hmore : ∀ bb, (rows.getD y []).getD x false = bb → S.data.toList.drop (pos + (tok s u bb).length) = restL s u (ofL [10]) rows y (x + 1) := fun bb hbb => by
          refine drop_more _ _ (tok s u bb) _ ?_
          rw [HP.out.rest, hst, hbb]
        have HPut := Lib.hid hput; have HMore := Lib.hid hmore
        clear hput hmore hcb hfb
        rcases hbb : (rows.getD y []).getD x false with _ | _
        · have hdr : S.data.toList.drop pos = b :: (u' ++ restL s u (ofL [10]) rows y (x + 1)) := by
            rw [HP.out.rest, hst, hbb]; unfold tok; rw [if_neg (by decide), HT.out.2]; rfl
          obtain ⟨hpl, hc⟩ := byte_rest S pos b _ hdr
          rw [hbb] at hex
          have hp1 : isPre s (S.extract pos S.size) = false := isPre_no HT.out.1 (by rw [hex]; unfold tok; rw [if_neg (by decide), HT.out.2]; rfl) HAB.out
          have hp2 : isPre u (S.extract pos S.size) = true := isPre_yes (by rw [hex]; unfold tok; rw [if_neg (by decide)])
          have hHB := HPut.out false hbb; have hHM := HMore.out false hbb
          have hl : (tok s u false).length = u.size := by unfold tok; rw [if_neg (by decide)]; simp
          rw [hl] at hHM
          have hple : pos + u.size ≤ S.size := by
            have h9 : (S.data.toList.drop pos).length = S.size - pos := by simp
            rw [HP.out.rest, hst, hbb, List.length_append, hl] at h9
            omega
          have HP2 : Hid (ParseS S s u rows W w.heap.size S.size w.heap.size w (wr.setCell ⟨w.heap.size, m + x, none⟩ (.bool false)) y (x + 1) m (pos + u.size) r) :=
            Lib.hid ⟨HP.out.mul, hHM, HP.out.len, hHB, HP.out.below.setCell (p := ⟨w.heap.size, m + x, none⟩) (Nat.le_refl _) _⟩
          clear hHB hHM hl hdr hbb hst hex HP HPut HMore hrw hSe
          have hsz : (S.extract pos S.size).size ≤ maxLen := by simp; unfold maxLen; omega
          go_wp2_with fail
          refine (hasPrefix_any _ _ _ hsz (by unfold maxLen; omega)).mono ?_
          rintro e wr ⟨rfl, rfl⟩
          go_wp2_with fail
          refine (hasPrefix_any _ _ _ hsz (by unfold maxLen; omega)).mono ?_
          rintro e wr ⟨rfl, rfl⟩
          go_wp2
          go_roundw
          case rel => exact ⟨y, x + 1, m, pos + u.size, r, by omega, by omega, by omega, by go_num, rfl, rfl, rfl, by go_num, hple, HP2⟩
          case measure => simp [intOf]; omega
        · have hdr : S.data.toList.drop pos = a :: (s' ++ restL s u (ofL [10]) rows y (x + 1)) := by
            rw [HP.out.rest, hst, hbb]; unfold tok; rw [if_pos rfl, HT.out.1]; rfl
          obtain ⟨hpl, hc⟩ := byte_rest S pos a _ hdr
          rw [hbb] at hex
          have hp1 : isPre s (S.extract pos S.size) = true := isPre_yes (by rw [hex]; unfold tok; rw [if_pos rfl])
          have hHB := HPut.out true hbb; have hHM := HMore.out true hbb
          have hl : (tok s u true).length = s.size := by unfold tok; rw [if_pos rfl]; simp
          rw [hl] at hHM
          have hple : pos + s.size ≤ S.size := by
            have h9 : (S.data.toList.drop pos).length = S.size - pos := by simp
            rw [HP.out.rest, hst, hbb, List.length_append, hl] at h9
            omega
          have HP2 : Hid (ParseS S s u rows W w.heap.size S.size w.heap.size w (wr.setCell ⟨w.heap.size, m + x, none⟩ (.bool true)) y (x + 1) m (pos + s.size) r) :=
            Lib.hid ⟨HP.out.mul, hHM, HP.out.len, hHB, HP.out.below.setCell (p := ⟨w.heap.size, m + x, none⟩) (Nat.le_refl _) _⟩
          clear hHB hHM hl hdr hbb hst hex HP HPut HMore hrw hSe
          have hsz : (S.extract pos S.size).size ≤ maxLen := by simp; unfold maxLen; omega
          go_wp2_with fail
          refine (hasPrefix_any _ _ _ hsz (by unfold maxLen; omega)).mono ?_
          rintro e wr ⟨rfl, rfl⟩
          go_wp2
          go_roundw
          case rel => exact ⟨y, x + 1, m, pos + s.size, r, by omega, by omega, by omega, by go_num, rfl, rfl, rfl, by go_num, hple, HP2⟩
          case measure => simp [intOf]; omega
      · obtain rfl : x = W := by omega
        have hst := restL_end s u (ofL [10]) rows y x hyl (by omega)
        have hdr : S.data.toList.drop pos = 10 :: restL s u (ofL [10]) rows (y + 1) 0 := by
          rw [HP.out.rest, hst]
          have : (ofL [10]).data.toList = [10] := ofL_data _
          rw [this]; rfl
        obtain ⟨hpl, hc⟩ := byte_rest S pos 10 _ hdr
        have hmore : S.data.toList.drop (pos + 1) = restL s u (ofL [10]) rows (y + 1) 0 := drop_more _ _ [10] _ hdr
        have HP2 : ∀ r', r' = (x : Int) → Hid (ParseS S s u rows x w.heap.size S.size w.heap.size w wr (y + 1) 0 (m + x) (pos + 1) r') := fun r' hr' =>
          Lib.hid ⟨by rw [Nat.add_mul, HP.out.mul, Nat.one_mul], hmore, .inr ⟨by omega, hr'⟩, HP.out.blk, HP.out.below⟩
        have HQ := Lib.hid HP2; clear HP2
        have hmx : m + x ≤ 4900 := by
          have h1 := HP.out.mul
          have h2 : (y + 1) * x ≤ H * x := Nat.mul_le_mul_right x hlt
          rw [Nat.add_mul, Nat.one_mul] at h2
          omega
        have hlen := HP.out.len
        clear hst hdr hmore HP hrw hSe
        rcases hlen with ⟨rfl, rfl⟩ | ⟨h0, rfl⟩
        · go_wp2
          go_roundw
          case rel => exact ⟨1, 0, m + x, pos + 1, x, by omega, by omega, by omega, by go_num, by go_num, by go_num, by go_num, by go_num, by omega, HQ.out _ rfl⟩
          case measure => simp [intOf]; omega
        · go_wp2
          go_roundw
          case rel => exact ⟨y + 1, 0, m + x, pos + 1, x, by omega, by omega, by omega, by go_num, by go_num, rfl, by go_num, by go_num, by omega, HQ.out _ rfl⟩
          case measure => simp [intOf]; omega
    · obtain rfl : y = H := by omega
      obtain rfl : x = 0 := HYX.out rfl
      have hm := HP.out.mul
      have hpe : S.size ≤ pos := by
        have h1 := HP.out.rest
        unfold restL at h1
        rw [if_neg (by rw [HHR.out]; omega)] at h1
        have h9 : (S.data.toList.drop pos).length = S.size - pos := by simp
        rw [h1] at h9; simp at h9; omega
      obtain rfl : r = W := by rcases HP.out.len with h | h <;> omega
      have hmle : m ≤ S.size := by omega
      have hm4 : m ≤ 4900 := by omega
      have HBlk := Lib.hid HP.out.blk; have HBe := Lib.hid HP.out.below
      have HMul := Lib.hid hm
      clear hm HP hSe HYX
      rw [Nat.add_zero] at *
      go_wp2_with fail
      refine (newMat_any W y wr hW1 hH1 (by omega) (by omega)).mono ?_
      rintro e w1 ⟨p, g, rfl, hm, hp, hg, hb1⟩
      have hgp : w.heap.size ≤ wr.heap.size := HBe.out.size
      have hgl : w.heap.size < wr.heap.size := HBlk.out.lt
      have HB1 := Lib.hid (HBlk.out.up hb1)
      have HW1 := Lib.hid (bup HBe.out hb1)
      have HM := Lib.hid hm
      clear hm hb1 HBlk HBe
      go_wp2_with fail
      go_loopw [17] (fun iv wi => ∃ (i : Nat), i ≤ m ∧ iv = .int .i64 i ∧ Hid (Blk wi w.heap.size 4 (bv (fillA rows.flatten false S.size m)).toArray) ∧ Hid (MatAt wi p g W y (fun x' y' => decide (y' * W + x' < i) && bitOf rows x' y')) ∧ Hid (Below w.heap.size w wi)) (fun iv _ => m - (intOf iv).toNat)
      case atStart => exact ⟨0, Nat.zero_le _, rfl, HB1, Lib.hid (HM.out.congr (fun x y _ _ => by simp)), HW1⟩
      case round =>
        rename World => wi
        clear HB1 HM HW1
        obtain ⟨i, hi, rfl, HB1, HM, HW1⟩ := hrel
        by_cases hil : i < m
        · have hdiv : i / W < y := (Nat.div_lt_iff_lt_mul (by omega)).2 (by rw [← HMul.out]; exact hil)
          have hmod : i % W < W := Nat.mod_lt _ (by omega)
          have hdm : i / W * W + i % W = i := by rw [Nat.mul_comm]; exact Nat.div_add_mod i W
          have hbit : (bv (fillA rows.flatten false S.size m)).toArray[i]? = some (.bool (bitOf rows (i % W) (i / W))) := by
            have h1 := flat_at rows W HR.out (i / W) (i % W) (by rw [HHR.out]; exact hdiv) hmod
            rw [hdm] at h1
            rw [List.getElem?_toArray]; unfold bv
            rw [List.getElem?_map, fill_at_lo _ _ _ _ _ hil (by rw [HFL.out, HMul.out]; exact Nat.le_refl _), List.getElem?_eq_getElem (by rw [HFL.out, ← HMul.out]; exact hil)]
            rw [List.getD, List.getElem?_eq_getElem (by rw [HFL.out, ← HMul.out]; exact hil)] at h1
            show some (Value.bool _) = _
            congr 2
          have c1 : wi.cell? ⟨w.heap.size, i, none⟩ = some (.bool (bitOf rows (i % W) (i / W))) := by rw [HB1.out.cell]; exact hbit
          have hnext : ∀ a c, a < W → c < y → (decide (c * W + a < i + 1) && bitOf rows a c) = (decide (c * W + a < i) && bitOf rows a c || (decide (a = i % W) && decide (c = i / W)) && bitOf rows (i % W) (i / W)) := fun a c ha hc => by
            by_cases hac : a = i % W ∧ c = i / W
            · obtain ⟨rfl, rfl⟩ := hac
              rw [hdm]; simp
            · have hne : c * W + a ≠ i := fun he => hac (by
                have h1 : (c * W + a) % W = a := by rw [Nat.mul_comm, Nat.mul_add_mod, Nat.mod_eq_of_lt ha]
                have h2 : (c * W + a) / W = c := by rw [Nat.mul_comm, Nat.mul_add_div (by omega), Nat.div_eq_of_lt ha, Nat.add_zero]
                rw [he] at h1 h2; exact ⟨h1.symm, h2.symm⟩)
              have e1 : decide (c * W + a < i + 1) = decide (c * W + a < i) := by rw [Bool.eq_iff_iff]; simp; omega
              have e2 : (decide (a = i % W) && decide (c = i / W)) = false := by rw [Bool.eq_false_iff]; simpa using hac
              rw [e1, e2]; simp
          have HN := Lib.hid hnext; clear hnext hbit hdm
          rcases hbv : bitOf rows (i % W) (i / W) with _ | _
          · have HM2 : Hid (MatAt wi p g W y (fun x' y' => decide (y' * W + x' < i + 1) && bitOf rows x' y')) := Lib.hid (HM.out.congr (fun a c ha hc => by rw [HN.out a c ha hc, hbv]; simp))
            rw [hbv] at c1
            clear hbv HM HN hdiv hmod
            go_wp2
            go_roundw
            case rel => exact ⟨i + 1, by omega, by go_num, HB1, HM2, HW1⟩
            case measure => simp [intOf]; omega
          · rw [hbv] at c1
            have HBV := Lib.hid hbv; clear hbv
            have e1 : Int.tmod (i : Int) (W : Int) = ((i % W : Nat) : Int) := by rw [Int.tmod_eq_emod_of_nonneg (by omega)]; simp
            have e2 : Int.tdiv (i : Int) (W : Int) = ((i / W : Nat) : Int) := by rw [Int.tdiv_eq_ediv_of_nonneg (by omega)]; simp
            have hset := fun (ws : World) (hws : MatAt ws p g W y (fun x' y' => decide (y' * W + x' < i) && bitOf rows x' y')) => matSet_any p g W y (i % W) (i / W) _ ws hws hmod hdiv (by omega) (by omega)
            have HSet := Lib.hid hset; clear hset
            have hW0 : ¬ W = 0 := by omega
            generalize i / W = q at *
            generalize i % W = t at *
            have hwq : IntKind.i64.wrap (q : Int) = (q : Int) := by rw [IntKind.wrap_i64]; omega
            go_wp2_with fail
            refine Can.wp_region_can (fun w' => Below wi.heap.size wi w') 7 [0, 1, 2, 3, 4, 5, 6, 7] (by kernel_rfl) (by kernel_rfl) (fun _ _ d _ _ h => by cases d <;> exact h) (bdr (brf _)) (fun hHeld => ?_)
            repeat (refine Can.can_pure (v := ?_) rfl rfl (Or.inl ⟨by rfl, ?_⟩) ?_; rotate_left; (focus ((intro w hSw); (try dsimp only at hSw); go_simp; (try with_reducible rfl))); (try simp only [Act.put, List.getElem_toArray, List.getElem_cons_succ, List.getElem_cons_zero, List.setIfInBounds_toArray, List.set_cons_zero, List.set_cons_succ]))
            refine Can.can_tail rfl rfl (by rfl) (fun K hK => ?_)
            go_simp
            refine (HSet.out _ (HM.out.up hHeld)).mono ?_
            rintro e w2 ⟨j, u9, rfl, rfl, hm2⟩
            refine hK.out _ _ ?_
            clear hK K
            have HM2 : Hid (MatAt (World.setCell (World.drew wi) ⟨g, j, none⟩ u9) p g W y (fun x' y' => decide (y' * W + x' < i + 1) && bitOf rows x' y')) := Lib.hid (hm2.congr (fun a c ha hc => by rw [HN.out a c ha hc, HBV.out, Bool.and_true]))
            have HB2 := Lib.hid ((HB1.out.drew).far (p := ⟨g, j, none⟩) (by show w.heap.size ≠ g; omega) u9)
            have HW2 := Lib.hid ((bdr HW1.out).setCell (p := ⟨g, j, none⟩) (by show w.heap.size ≤ g; omega) u9)
            clear hm2 HM HB1 HW1 hHeld hwq e1 e2 hW0 c1
            go_wp2
            go_roundw
            case rel => exact ⟨i + 1, by omega, by go_num, HB2, HM2, HW2⟩
            case measure => simp [intOf]; omega
        · obtain rfl : i = m := by omega
          go_wp2
          go_ret2
          refine ⟨p, g, rfl, HM.out.congr (fun a c ha hc => ?_), by omega, by omega, HW1.out⟩
          have h1 : c * W + a < i := by
            have h2 : (c + 1) * W ≤ y * W := Nat.mul_le_mul_right W hc
            rw [Nat.add_mul, Nat.one_mul] at h2
            rw [HMul.out]; omega
          simp [h1]

/-- impl.GridParse. -/
theorem gridParse_any (S s u : ByteArray) (rows : List (List Bool)) (W H : Nat) (a b : UInt8) (s' u' : List UInt8) (w : World) (hS : S.data.toList = textL s u (ofL [10]) rows) (hs : s.data.toList = a :: s') (hu : u.data.toList = b :: u') (hab : a ≠ b)
    (ha1 : ((a.toNat : Int) == 10) = false) (ha2 : ((a.toNat : Int) == 13) = false) (hb1 : ((b.toNat : Int) == 10) = false) (hb2 : ((b.toNat : Int) == 13) = false) (hr : ∀ r ∈ rows, r.length = W) (hH : rows.length = H) (hW1 : 1 ≤ W) (hH1 : 1 ≤ H) (hW : W ≤ 70) (hH7 : H ≤ 70) (hs3 : s.size ≤ 3) (hu3 : u.size ≤ 3) :
    Calls Try.prog 14 #[.string S, .string s, .string u] w fun e w' => ∃ v, e = .returned (.tuple #[v, .bool true]) ∧ RowsT w' v rows ∧ Below w.heap.size w w' := by
  have HR := Lib.hid (rowsF_bitOf W H rows hH hr)
  go_enter Try.func14, Try.ntmps14
  go_wp2_with fail
  refine (parse_any S s u rows W H a b s' u' _ hS hs hu hab ha1 ha2 hb1 hb2 hr hH hW1 hH1 hW hH7 hs3 hu3).mono ?_
  rintro e w1 ⟨p, g, rfl, hm, hp, hg, hb1⟩
  have HB := Lib.hid hb1; clear hb1 hS hs hu hr hH
  go_wp2_with fail
  refine (rowsOf_any p g W H _ _ hm (by omega) (by omega)).mono ?_
  rintro e w2 ⟨v, rfl, hv, hb2⟩
  have HV : Hid (RowsT w2 v rows) := Lib.hid (by have := hv; rwa [HR.out] at this)
  have HB2 := Lib.hid (bup HB.out hb2); clear hv hb2 hm
  go_wp2
  go_ret2
  exact ⟨v, rfl, HV.out, HB2.out⟩
end Go.Proofs.Ytbfkjfgjeaofpaa
