/-
  WALK: DecodedBitStreamParser_decodeNumericSegment.
-/
import Derived.Test.YtjkfkkenaiodoaaPq7
namespace Go.Proofs.Ytjkfkkenaiodoaa
open Go.RowKit

set_option maxRecDepth 100000 in
set_option maxHeartbeats 4000000 in
theorem decNum_any {w0 : World} {B p : Nat} {sv : Value} {bs : List Nat} (h : SrcOk w0 B p sv bs) (pos count base n : Nat) (v : Value) (res : List UInt8) (R : Option (List UInt8 × Nat)) (w : World) (hb : Below B w0 w) (hs : SrcAt w p sv pos) (hp : pos ≤ 8 * bs.length)
    (ho : w.ownsRow base 5 1 v n (bl res)) (hn : n = res.length) (hBb : B ≤ base) (hbw : base ≤ w.heap.size) (hn2 : n + count ≤ 100000000000) (hR : segS bs 1 count count pos [] = R) :
    Calls Try.prog 40 #[.pointer (some ⟨p, 0, none⟩), v, .int .i64 count] w fun e w' => DecQ w0 w B p base sv v res R e w' := by
  obtain ⟨i0, hi0, hz0, hz1, hz2⟩ := info_parts info_u8P
  have HK := Lib.hid h
  have HB := Lib.hid hb
  have HS := Lib.hid hs
  have HO := Lib.hid ho
  have HR := Lib.hid hR
  have HN := Lib.hid hn
  clear h hb hs ho hR hn
  go_enter Try.func40, Try.ntmps40
  go_wp2_with fail
  go_loopw [1, 2] (fun ov cv wr => ∃ (f c pos k : Nat) (out : List UInt8), c ≤ f ∧ k + c ≤ 100000000000 ∧ cv = .int .i64 (c : Int) ∧ pos ≤ 8 * bs.length ∧ Hid (wr.ownsRow base 5 1 ov k (bl (res ++ out))) ∧ Hid (k = (res ++ out).length) ∧ Hid (SrcAt wr p sv pos) ∧ Hid (segS bs 1 f c pos out = R) ∧ Hid (Below B w0 wr) ∧ Hid (w.heap.size ≤ wr.heap.size) ∧ Hid (Fr w p v wr ov)) (fun _ cv _ => (intOf cv).toNat)
  case atStart => exact ⟨count, count, pos, n, [], Nat.le_refl _, hn2, rfl, hp, by simpa using HO, by simpa using HN, HS, HR, HB, Lib.hid (Nat.le_refl _), Lib.hid (Fr.refl w p v)⟩
  case round =>
    clear HO HN HS HR HB hp hn2
    obtain ⟨f, c, pos, k, out, hcf, hkc, rfl, hp, HOr, HNr, HSr, HSG, HBr, HZr, HFr⟩ := hrel
    rename World => wr
    by_cases h3 : 3 ≤ c
    · have h3i : (3 : Int) ≤ (c : Int) := by omega
      obtain ⟨f', hf', hst⟩ := segS_step bs 1 f c pos out 3 10 1000 (by unfold wkK; rw [if_pos rfl, if_pos h3]) (by omega) hcf
      by_cases h8 : pos + 10 ≤ 8 * bs.length
      · -- 10 bits are read at pos, they are there: r = old letter, a = new letter; z = the number; hrd = the contract
        have hrd : Calls Try.prog 33 #[.pointer (some ⟨p, 0, none⟩), .int .i64 10] wr fun e w' => e = .returned (.tuple #[.int .i64 ((rb bs pos 10 : Nat) : Int), .nilIface]) ∧ SrcAt w' p sv (pos + 10) ∧ Onl p wr w' ∧ Below B w0 w' :=
          rdBits_yes HK.out pos 10 wr HBr.out (by have := HZr.out; omega) HSr.out (by decide) (by decide) (by omega)
        have hz := rb_lt bs pos 10
        obtain ⟨z, hzv⟩ : ∃ z, z = rb bs pos 10 := ⟨_, rfl⟩
        rw [← hzv] at hz hrd hst
        rw [if_neg (by omega)] at hst
        clear hzv
        go_wp2_with fail
        refine hrd.mono ?_
        rintro e wa ⟨rfl, hs2, ho2, hb2⟩
        -- behind a reading: 10 bits, r = old letter, a = new letter, from the rintro's facts hs2 ho2 hb2 in world wa
        have HOa := Lib.hid (own_onl HOr.out ho2 HSr.out (by decide))
        have HSa := Lib.hid hs2
        have HBa := Lib.hid hb2
        have HZa : Hid (w.heap.size ≤ wa.heap.size) := Lib.hid (Nat.le_trans HZr.out ho2.size)
        have HFa := Lib.hid (HFr.out.read ho2)
        clear hs2 ho2 hb2 HOr HSr HBr HZr HFr hrd
        by_cases hlim : 1000 ≤ z
        · rw [if_pos hlim] at hst
          -- the number is too big: a = letter of the state behind the reading
          have hr : R = none := by rw [← HSG.out]; exact hst
          have HRN := Lib.hid hr
          clear hr hst HSG
          go_wp2_with fail
          refine (newF_any _ _).mono ?_
          rintro e w5 ⟨⟨t5, u5, rfl⟩, hb5⟩
          have HB5 := Lib.hid ((HBa.out.alloc (by have := HZa.out; omega) _).trans (hb5.mono (by have := HZa.out; simp; omega)))
          have HZ5 : Hid (w.heap.size ≤ w5.heap.size) := Lib.hid (Nat.le_trans HZa.out (Nat.le_trans (by simp) hb5.size))
          clear hb5
          go_wp2_with fail
          go_ret2
          exact ⟨HB5.out, HZ5.out, .inl ⟨HRN.out, _, _, _, rfl⟩⟩
        · rw [if_neg hlim] at hst
          have HSG2 : Hid (segS bs 1 f' (c - 3) (pos + 10) (out ++ chK 1 3 z) = R) := Lib.hid (by rw [← HSG.out, hst])
          have hcf2 : c - 3 ≤ f' := by omega
          have HC2 : Hid ((c : Int) - 3 = ((c - 3 : Nat) : Int)) := Lib.hid (by omega)
          clear hst HSG
          obtain ⟨q3, hq3⟩ : ∃ q, q = z / 100 := ⟨_, rfl⟩
          obtain ⟨q2, hq2⟩ : ∃ q, q = z / 10 := ⟨_, rfl⟩
          obtain ⟨r2, hr2⟩ : ∃ q, q = q2 % 10 := ⟨_, rfl⟩
          obtain ⟨r1, hr1⟩ : ∃ q, q = z % 10 := ⟨_, rfl⟩
          have a1 : Int.tdiv (z : Int) 100 = (q3 : Int) := by rw [Int.tdiv_eq_ediv_of_nonneg (by omega)]; omega
          have a2 : (z : Int) / 100 = (q3 : Int) := by omega
          have b1 : Int.tdiv (z : Int) 10 = (q2 : Int) := by rw [Int.tdiv_eq_ediv_of_nonneg (by omega)]; omega
          have b2 : (z : Int) / 10 = (q2 : Int) := by omega
          have b3 : Int.tmod (q2 : Int) 10 = (r2 : Int) := by rw [Int.tmod_eq_emod_of_nonneg (by omega)]; omega
          have b4 : (q2 : Int) % 10 = (r2 : Int) := by omega
          have c1 : Int.tmod (z : Int) 10 = (r1 : Int) := by rw [Int.tmod_eq_emod_of_nonneg (by omega)]; omega
          have c2 : (z : Int) % 10 = (r1 : Int) := by omega
          have hb1 : q3 < 10 ∧ r2 < 10 ∧ r1 < 10 ∧ q2 < 100 := by omega
          have hzl : z < 1000 := by omega
          have HQ := Lib.hid (And.intro hq3 (And.intro hq2 (And.intro hr2 hr1)))
          have hv3 : z / 100 % 10 = q3 := by omega
          have hv2 : z / 10 % 10 = r2 := by omega
          have hv1 : z / 1 % 10 = r1 := by omega
          have V3 := Lib.hid hv3
          have V2 := Lib.hid hv2
          have V1 := Lib.hid hv1
          clear hq3 hq2 hr2 hr1 hv3 hv2 hv1
          -- digit 3 of z is q3 (V3 tells it, 100 is the divisor): the number y of its sign, HDG
          obtain ⟨y, hy⟩ : ∃ y, y = 48 + q3 := ⟨_, rfl⟩
          have d5 : (48 : Int) + (q3 : Int) = (y : Int) := by omega
          have hy2 : y < 256 := by omega
          have HDG : Hid (bl [dgK z 3] = [.int .u8 (y : Int)]) := Lib.hid (by
            rw [← bl_single y hy2]
            have e : dgK z 3 = UInt8.ofNat y := by
              show UInt8.ofNat (48 + z / 100 % 10) = _
              rw [V3.out, hy]
            rw [e])
          clear hy
          -- one sign is appended: 40 = slot, y = its number, dgK z 3 = the sign, res ++ out = the list so far, k = how many, pos + 10 = the position, a = old names' letter, b = new names' letter (HDG tells the sign)
          go_wp2_with (with_reducible refine stop_at (o := ⟨some 40, _, _, _, _, _⟩) ?_)
          refine Lib.hid ?_
          have hob := own_up HOa.out (bal (brf wa) (.cells #[.int .u8 (y : Int)] 5))
          refine list_app2 rfl _ _ _ rfl base 5 i0 _ 1 Try.underlying22 hi0 hz0 hz1 hz2 rfl _ (k) _ rfl hob _ _ [.int .u8 (y : Int)] rfl (Rd.one rfl _ _) (fun u hu => by simp at hu; subst hu; rfl) (by simp only [List.length_singleton]; unfold maxLen; omega) (by simp only [List.length_singleton]; omega) (by have := HZa.out; simp; omega) ?_
          intro vb wb ho1 hg1 hl1
          have HFb : Hid (Fr w p _ wb vb) := Lib.hid ((HFa.out.below (bal (brf wa) (.cells #[.int .u8 (y : Int)] 5))).app hg1 hl1)
          have HOb : Hid (wb.ownsRow base 5 1 vb (k + 1) (bl (res ++ out ++ [dgK z 3]))) := Lib.hid (by rw [bl_app, HDG.out]; exact ho1)
          have HSb : Hid (SrcAt wb p sv (pos + 10)) := Lib.hid (Blk.grown (Blk.alloc HSa.out _) hg1 (own_ne hob (Blk.alloc HSa.out _) (by decide)))
          have HBb : Hid (Below B w0 wb) := Lib.hid (below_grown (HBa.out.alloc (by have := HZa.out; omega) _) hg1 (own_lessP hob hBb) (by have := HZa.out; simp; omega))
          have HZb : Hid (w.heap.size ≤ wb.heap.size) := Lib.hid (Nat.le_trans HZa.out (Nat.le_trans (by simp) hg1.size))
          clear ho1 hg1 hl1 hob HOa HSa HBa HZa HFa HDG
          clear d5 hy2 a1 a2
          -- digit 2 of z is r2 (V2 tells it, 10 is the divisor): the number y of its sign, HDG
          obtain ⟨y, hy⟩ : ∃ y, y = 48 + r2 := ⟨_, rfl⟩
          have d5 : (48 : Int) + (r2 : Int) = (y : Int) := by omega
          have hy2 : y < 256 := by omega
          have HDG : Hid (bl [dgK z 2] = [.int .u8 (y : Int)]) := Lib.hid (by
            rw [← bl_single y hy2]
            have e : dgK z 2 = UInt8.ofNat y := by
              show UInt8.ofNat (48 + z / 10 % 10) = _
              rw [V2.out, hy]
            rw [e])
          clear hy
          -- one sign is appended: 48 = slot, y = its number, dgK z 2 = the sign, res ++ out ++ [dgK z 3] = the list so far, k + 1 = how many, pos + 10 = the position, b = old names' letter, c = new names' letter (HDG tells the sign)
          go_wp2_with (with_reducible refine stop_at (o := ⟨some 48, _, _, _, _, _⟩) ?_)
          refine Lib.hid ?_
          have hob := own_up HOb.out (bal (brf wb) (.cells #[.int .u8 (y : Int)] 5))
          refine list_app2 rfl _ _ _ rfl base 5 i0 _ 1 Try.underlying22 hi0 hz0 hz1 hz2 rfl _ (k + 1) _ rfl hob _ _ [.int .u8 (y : Int)] rfl (Rd.one rfl _ _) (fun u hu => by simp at hu; subst hu; rfl) (by simp only [List.length_singleton]; unfold maxLen; omega) (by simp only [List.length_singleton]; omega) (by have := HZb.out; simp; omega) ?_
          intro vc wc ho1 hg1 hl1
          have HFc : Hid (Fr w p _ wc vc) := Lib.hid ((HFb.out.below (bal (brf wb) (.cells #[.int .u8 (y : Int)] 5))).app hg1 hl1)
          have HOc : Hid (wc.ownsRow base 5 1 vc (k + 1 + 1) (bl (res ++ out ++ [dgK z 3] ++ [dgK z 2]))) := Lib.hid (by rw [bl_app, HDG.out]; exact ho1)
          have HSc : Hid (SrcAt wc p sv (pos + 10)) := Lib.hid (Blk.grown (Blk.alloc HSb.out _) hg1 (own_ne hob (Blk.alloc HSb.out _) (by decide)))
          have HBc : Hid (Below B w0 wc) := Lib.hid (below_grown (HBb.out.alloc (by have := HZb.out; omega) _) hg1 (own_lessP hob hBb) (by have := HZb.out; simp; omega))
          have HZc : Hid (w.heap.size ≤ wc.heap.size) := Lib.hid (Nat.le_trans HZb.out (Nat.le_trans (by simp) hg1.size))
          clear ho1 hg1 hl1 hob HOb HSb HBb HZb HFb HDG
          clear d5 hy2 b1 b2 b3 b4
          -- digit 1 of z is r1 (V1 tells it, 1 is the divisor): the number y of its sign, HDG
          obtain ⟨y, hy⟩ : ∃ y, y = 48 + r1 := ⟨_, rfl⟩
          have d5 : (48 : Int) + (r1 : Int) = (y : Int) := by omega
          have hy2 : y < 256 := by omega
          have HDG : Hid (bl [dgK z 1] = [.int .u8 (y : Int)]) := Lib.hid (by
            rw [← bl_single y hy2]
            have e : dgK z 1 = UInt8.ofNat y := by
              show UInt8.ofNat (48 + z / 1 % 10) = _
              rw [V1.out, hy]
            rw [e])
          clear hy
          -- one sign is appended: 55 = slot, y = its number, dgK z 1 = the sign, res ++ out ++ [dgK z 3] ++ [dgK z 2] = the list so far, k + 1 + 1 = how many, pos + 10 = the position, c = old names' letter, d = new names' letter (HDG tells the sign)
          go_wp2_with (with_reducible refine stop_at (o := ⟨some 55, _, _, _, _, _⟩) ?_)
          refine Lib.hid ?_
          have hob := own_up HOc.out (bal (brf wc) (.cells #[.int .u8 (y : Int)] 5))
          refine list_app2 rfl _ _ _ rfl base 5 i0 _ 1 Try.underlying22 hi0 hz0 hz1 hz2 rfl _ (k + 1 + 1) _ rfl hob _ _ [.int .u8 (y : Int)] rfl (Rd.one rfl _ _) (fun u hu => by simp at hu; subst hu; rfl) (by simp only [List.length_singleton]; unfold maxLen; omega) (by simp only [List.length_singleton]; omega) (by have := HZc.out; simp; omega) ?_
          intro vd wd ho1 hg1 hl1
          have HFd : Hid (Fr w p _ wd vd) := Lib.hid ((HFc.out.below (bal (brf wc) (.cells #[.int .u8 (y : Int)] 5))).app hg1 hl1)
          have HOd : Hid (wd.ownsRow base 5 1 vd (k + 1 + 1 + 1) (bl (res ++ out ++ [dgK z 3] ++ [dgK z 2] ++ [dgK z 1]))) := Lib.hid (by rw [bl_app, HDG.out]; exact ho1)
          have HSd : Hid (SrcAt wd p sv (pos + 10)) := Lib.hid (Blk.grown (Blk.alloc HSc.out _) hg1 (own_ne hob (Blk.alloc HSc.out _) (by decide)))
          have HBd : Hid (Below B w0 wd) := Lib.hid (below_grown (HBc.out.alloc (by have := HZc.out; omega) _) hg1 (own_lessP hob hBb) (by have := HZc.out; simp; omega))
          have HZd : Hid (w.heap.size ≤ wd.heap.size) := Lib.hid (Nat.le_trans HZc.out (Nat.le_trans (by simp) hg1.size))
          clear ho1 hg1 hl1 hob HOc HSc HBc HZc HFc HDG
          clear d5 hy2 c1 c2
          have hout : res ++ out ++ [dgK z 3] ++ [dgK z 2] ++ [dgK z 1] = res ++ (out ++ chK 1 3 z) := by
            have e : chK 1 3 z = [dgK z 3] ++ [dgK z 2] ++ [dgK z 1] := rfl
            rw [e]; simp only [List.append_assoc]
          have HO9 : Hid (wd.ownsRow base 5 1 vd (k + 3) (bl (res ++ (out ++ chK 1 3 z)))) := Lib.hid (by rw [← hout]; exact HOd.out)
          have HN9 : Hid (k + 3 = (res ++ (out ++ chK 1 3 z)).length) := Lib.hid (by rw [← hout]; simp only [List.length_append, List.length_singleton]; have := HNr.out; rw [List.length_append] at this; omega)
          clear hout HOd HNr
          go_wp2_with fail
          go_roundw
          case rel => exact ⟨f', c - 3, pos + 10, k + 3, _, hcf2, by omega, by rw [← HC2.out], h8, HO9, HN9, HSd, HSG2, HBd, HZd, HFd⟩
          case measure => simp [intOf]; omega
      · -- 10 bits are not there: r = letter
        have hrd : Calls Try.prog 33 #[.pointer (some ⟨p, 0, none⟩), .int .i64 10] wr fun e w' => (∃ t x, e = .returned (.tuple #[.int .i64 0, .iface t x])) ∧ Below B w0 w' ∧ Onl p wr w' :=
          rdBits_no HK.out pos 10 wr HBr.out (by have := HZr.out; omega) HSr.out (by decide) (by decide) (by omega) (by omega)
        rw [if_pos (by omega)] at hst
        have hr : R = none := by rw [← HSG.out]; exact hst
        have HRN := Lib.hid hr
        clear hr hst HSG
        go_wp2_with fail
        refine hrd.mono ?_
        rintro e w4 ⟨⟨t4, x4, rfl⟩, hb4, ho4⟩
        have HB4 := Lib.hid hb4
        have HZ4 : Hid (w.heap.size ≤ w4.heap.size) := Lib.hid (Nat.le_trans HZr.out ho4.size)
        clear hb4 ho4 hrd HOr HSr HBr HZr
        go_wp2_with fail
        refine (wrapF_any t4 x4 _).mono ?_
        rintro e w5 ⟨⟨t5, u5, rfl⟩, hb5⟩
        have HB5 := Lib.hid (HB4.out.trans (hb5.mono (by have := HZ4.out; omega)))
        have HZ5 : Hid (w.heap.size ≤ w5.heap.size) := Lib.hid (Nat.le_trans HZ4.out hb5.size)
        clear hb5
        go_wp2_with fail
        go_ret2
        exact ⟨HB5.out, HZ5.out, .inl ⟨HRN.out, _, _, _, rfl⟩⟩
    · have h3i : ¬ (3 : Int) ≤ (c : Int) := by omega
      have hc : c = 2 ∨ c = 1 ∨ c = 0 := by omega
      clear h3
      rcases hc with rfl | rfl | rfl
      · obtain ⟨f', hf', hst⟩ := segS_step bs 1 f 2 pos out 2 7 100 rfl (by omega) hcf
        by_cases h8 : pos + 7 ≤ 8 * bs.length
        · -- 7 bits are read at pos, they are there: r = old letter, a = new letter; z = the number; hrd = the contract
          have hrd : Calls Try.prog 33 #[.pointer (some ⟨p, 0, none⟩), .int .i64 7] wr fun e w' => e = .returned (.tuple #[.int .i64 ((rb bs pos 7 : Nat) : Int), .nilIface]) ∧ SrcAt w' p sv (pos + 7) ∧ Onl p wr w' ∧ Below B w0 w' :=
            rdBits_yes HK.out pos 7 wr HBr.out (by have := HZr.out; omega) HSr.out (by decide) (by decide) (by omega)
          have hz := rb_lt bs pos 7
          obtain ⟨z, hzv⟩ : ∃ z, z = rb bs pos 7 := ⟨_, rfl⟩
          rw [← hzv] at hz hrd hst
          rw [if_neg (by omega)] at hst
          clear hzv
          go_wp2_with fail
          refine hrd.mono ?_
          rintro e wa ⟨rfl, hs2, ho2, hb2⟩
          -- behind a reading: 7 bits, r = old letter, a = new letter, from the rintro's facts hs2 ho2 hb2 in world wa
          have HOa := Lib.hid (own_onl HOr.out ho2 HSr.out (by decide))
          have HSa := Lib.hid hs2
          have HBa := Lib.hid hb2
          have HZa : Hid (w.heap.size ≤ wa.heap.size) := Lib.hid (Nat.le_trans HZr.out ho2.size)
          have HFa := Lib.hid (HFr.out.read ho2)
          clear hs2 ho2 hb2 HOr HSr HBr HZr HFr hrd
          by_cases hlim : 100 ≤ z
          · rw [if_pos hlim] at hst
            -- the number is too big: a = letter of the state behind the reading
            have hr : R = none := by rw [← HSG.out]; exact hst
            have HRN := Lib.hid hr
            clear hr hst HSG
            go_wp2_with fail
            refine (newF_any _ _).mono ?_
            rintro e w5 ⟨⟨t5, u5, rfl⟩, hb5⟩
            have HB5 := Lib.hid ((HBa.out.alloc (by have := HZa.out; omega) _).trans (hb5.mono (by have := HZa.out; simp; omega)))
            have HZ5 : Hid (w.heap.size ≤ w5.heap.size) := Lib.hid (Nat.le_trans HZa.out (Nat.le_trans (by simp) hb5.size))
            clear hb5
            go_wp2_with fail
            go_ret2
            exact ⟨HB5.out, HZ5.out, .inl ⟨HRN.out, _, _, _, rfl⟩⟩
          · rw [if_neg hlim, segS_end] at hst
            have HRS : Hid (R = some (out ++ chK 1 2 z, pos + 7)) := Lib.hid (by rw [← HSG.out, hst])
            clear hst HSG
            obtain ⟨q2, hq2⟩ : ∃ q, q = z / 10 := ⟨_, rfl⟩
            obtain ⟨r1, hr1⟩ : ∃ q, q = z % 10 := ⟨_, rfl⟩
            have b1 : Int.tdiv (z : Int) 10 = (q2 : Int) := by rw [Int.tdiv_eq_ediv_of_nonneg (by omega)]; omega
            have b2 : (z : Int) / 10 = (q2 : Int) := by omega
            have c1 : Int.tmod (z : Int) 10 = (r1 : Int) := by rw [Int.tmod_eq_emod_of_nonneg (by omega)]; omega
            have c2 : (z : Int) % 10 = (r1 : Int) := by omega
            have hb1 : r1 < 10 ∧ q2 < 10 := by omega
            have hzl : z < 100 := by omega
            have hv2 : z / 10 % 10 = q2 := by omega
            have hv1 : z / 1 % 10 = r1 := by omega
            have V2 := Lib.hid hv2
            have V1 := Lib.hid hv1
            clear hq2 hr1 hv2 hv1
            -- digit 2 of z is q2 (V2 tells it, 10 is the divisor): the number y of its sign, HDG
            obtain ⟨y, hy⟩ : ∃ y, y = 48 + q2 := ⟨_, rfl⟩
            have d5 : (48 : Int) + (q2 : Int) = (y : Int) := by omega
            have hy2 : y < 256 := by omega
            have HDG : Hid (bl [dgK z 2] = [.int .u8 (y : Int)]) := Lib.hid (by
              rw [← bl_single y hy2]
              have e : dgK z 2 = UInt8.ofNat y := by
                show UInt8.ofNat (48 + z / 10 % 10) = _
                rw [V2.out, hy]
              rw [e])
            clear hy
            -- one sign is appended: 84 = slot, y = its number, dgK z 2 = the sign, res ++ out = the list so far, k = how many, pos + 7 = the position, a = old names' letter, b = new names' letter (HDG tells the sign)
            go_wp2_with (with_reducible refine stop_at (o := ⟨some 84, _, _, _, _, _⟩) ?_)
            refine Lib.hid ?_
            have hob := own_up HOa.out (bal (brf wa) (.cells #[.int .u8 (y : Int)] 5))
            refine list_app2 rfl _ _ _ rfl base 5 i0 _ 1 Try.underlying22 hi0 hz0 hz1 hz2 rfl _ (k) _ rfl hob _ _ [.int .u8 (y : Int)] rfl (Rd.one rfl _ _) (fun u hu => by simp at hu; subst hu; rfl) (by simp only [List.length_singleton]; unfold maxLen; omega) (by simp only [List.length_singleton]; omega) (by have := HZa.out; simp; omega) ?_
            intro vb wb ho1 hg1 hl1
            have HFb : Hid (Fr w p _ wb vb) := Lib.hid ((HFa.out.below (bal (brf wa) (.cells #[.int .u8 (y : Int)] 5))).app hg1 hl1)
            have HOb : Hid (wb.ownsRow base 5 1 vb (k + 1) (bl (res ++ out ++ [dgK z 2]))) := Lib.hid (by rw [bl_app, HDG.out]; exact ho1)
            have HSb : Hid (SrcAt wb p sv (pos + 7)) := Lib.hid (Blk.grown (Blk.alloc HSa.out _) hg1 (own_ne hob (Blk.alloc HSa.out _) (by decide)))
            have HBb : Hid (Below B w0 wb) := Lib.hid (below_grown (HBa.out.alloc (by have := HZa.out; omega) _) hg1 (own_lessP hob hBb) (by have := HZa.out; simp; omega))
            have HZb : Hid (w.heap.size ≤ wb.heap.size) := Lib.hid (Nat.le_trans HZa.out (Nat.le_trans (by simp) hg1.size))
            clear ho1 hg1 hl1 hob HOa HSa HBa HZa HFa HDG
            clear d5 hy2 b1 b2
            -- digit 1 of z is r1 (V1 tells it, 1 is the divisor): the number y of its sign, HDG
            obtain ⟨y, hy⟩ : ∃ y, y = 48 + r1 := ⟨_, rfl⟩
            have d5 : (48 : Int) + (r1 : Int) = (y : Int) := by omega
            have hy2 : y < 256 := by omega
            have HDG : Hid (bl [dgK z 1] = [.int .u8 (y : Int)]) := Lib.hid (by
              rw [← bl_single y hy2]
              have e : dgK z 1 = UInt8.ofNat y := by
                show UInt8.ofNat (48 + z / 1 % 10) = _
                rw [V1.out, hy]
              rw [e])
            clear hy
            -- one sign is appended: 91 = slot, y = its number, dgK z 1 = the sign, res ++ out ++ [dgK z 2] = the list so far, k + 1 = how many, pos + 7 = the position, b = old names' letter, c = new names' letter (HDG tells the sign)
            go_wp2_with (with_reducible refine stop_at (o := ⟨some 91, _, _, _, _, _⟩) ?_)
            refine Lib.hid ?_
            have hob := own_up HOb.out (bal (brf wb) (.cells #[.int .u8 (y : Int)] 5))
            refine list_app2 rfl _ _ _ rfl base 5 i0 _ 1 Try.underlying22 hi0 hz0 hz1 hz2 rfl _ (k + 1) _ rfl hob _ _ [.int .u8 (y : Int)] rfl (Rd.one rfl _ _) (fun u hu => by simp at hu; subst hu; rfl) (by simp only [List.length_singleton]; unfold maxLen; omega) (by simp only [List.length_singleton]; omega) (by have := HZb.out; simp; omega) ?_
            intro vc wc ho1 hg1 hl1
            have HFc : Hid (Fr w p _ wc vc) := Lib.hid ((HFb.out.below (bal (brf wb) (.cells #[.int .u8 (y : Int)] 5))).app hg1 hl1)
            have HOc : Hid (wc.ownsRow base 5 1 vc (k + 1 + 1) (bl (res ++ out ++ [dgK z 2] ++ [dgK z 1]))) := Lib.hid (by rw [bl_app, HDG.out]; exact ho1)
            have HSc : Hid (SrcAt wc p sv (pos + 7)) := Lib.hid (Blk.grown (Blk.alloc HSb.out _) hg1 (own_ne hob (Blk.alloc HSb.out _) (by decide)))
            have HBc : Hid (Below B w0 wc) := Lib.hid (below_grown (HBb.out.alloc (by have := HZb.out; omega) _) hg1 (own_lessP hob hBb) (by have := HZb.out; simp; omega))
            have HZc : Hid (w.heap.size ≤ wc.heap.size) := Lib.hid (Nat.le_trans HZb.out (Nat.le_trans (by simp) hg1.size))
            clear ho1 hg1 hl1 hob HOb HSb HBb HZb HFb HDG
            clear d5 hy2 c1 c2
            have hout : res ++ out ++ [dgK z 2] ++ [dgK z 1] = res ++ (out ++ chK 1 2 z) := by
              have e : chK 1 2 z = [dgK z 2] ++ [dgK z 1] := rfl
              rw [e]; simp only [List.append_assoc]
            have HO9 : Hid (wc.ownsRow base 5 1 vc (k + 2) (bl (res ++ (out ++ chK 1 2 z)))) := Lib.hid (by rw [← hout]; exact HOc.out)
            have HN9 : Hid (k + 2 = (res ++ (out ++ chK 1 2 z)).length) := Lib.hid (by rw [← hout]; simp only [List.length_append, List.length_singleton]; have := HNr.out; rw [List.length_append] at this; omega)
            clear hout HOc HNr
            go_wp2_with fail
            go_ret2
            exact ⟨HBc.out, HZc.out, .inr ⟨_, _, _, _, HRS.out, rfl, HSc.out, HO9.out, HN9.out, HFc.out⟩⟩
        · -- 7 bits are not there: r = letter
          have hrd : Calls Try.prog 33 #[.pointer (some ⟨p, 0, none⟩), .int .i64 7] wr fun e w' => (∃ t x, e = .returned (.tuple #[.int .i64 0, .iface t x])) ∧ Below B w0 w' ∧ Onl p wr w' :=
            rdBits_no HK.out pos 7 wr HBr.out (by have := HZr.out; omega) HSr.out (by decide) (by decide) (by omega) (by omega)
          rw [if_pos (by omega)] at hst
          have hr : R = none := by rw [← HSG.out]; exact hst
          have HRN := Lib.hid hr
          clear hr hst HSG
          go_wp2_with fail
          refine hrd.mono ?_
          rintro e w4 ⟨⟨t4, x4, rfl⟩, hb4, ho4⟩
          have HB4 := Lib.hid hb4
          have HZ4 : Hid (w.heap.size ≤ w4.heap.size) := Lib.hid (Nat.le_trans HZr.out ho4.size)
          clear hb4 ho4 hrd HOr HSr HBr HZr
          go_wp2_with fail
          refine (wrapF_any t4 x4 _).mono ?_
          rintro e w5 ⟨⟨t5, u5, rfl⟩, hb5⟩
          have HB5 := Lib.hid (HB4.out.trans (hb5.mono (by have := HZ4.out; omega)))
          have HZ5 : Hid (w.heap.size ≤ w5.heap.size) := Lib.hid (Nat.le_trans HZ4.out hb5.size)
          clear hb5
          go_wp2_with fail
          go_ret2
          exact ⟨HB5.out, HZ5.out, .inl ⟨HRN.out, _, _, _, rfl⟩⟩
      · obtain ⟨f', hf', hst⟩ := segS_step bs 1 f 1 pos out 1 4 10 rfl (by omega) hcf
        by_cases h8 : pos + 4 ≤ 8 * bs.length
        · -- 4 bits are read at pos, they are there: r = old letter, a = new letter; z = the number; hrd = the contract
          have hrd : Calls Try.prog 33 #[.pointer (some ⟨p, 0, none⟩), .int .i64 4] wr fun e w' => e = .returned (.tuple #[.int .i64 ((rb bs pos 4 : Nat) : Int), .nilIface]) ∧ SrcAt w' p sv (pos + 4) ∧ Onl p wr w' ∧ Below B w0 w' :=
            rdBits_yes HK.out pos 4 wr HBr.out (by have := HZr.out; omega) HSr.out (by decide) (by decide) (by omega)
          have hz := rb_lt bs pos 4
          obtain ⟨z, hzv⟩ : ∃ z, z = rb bs pos 4 := ⟨_, rfl⟩
          rw [← hzv] at hz hrd hst
          rw [if_neg (by omega)] at hst
          clear hzv
          go_wp2_with fail
          refine hrd.mono ?_
          rintro e wa ⟨rfl, hs2, ho2, hb2⟩
          -- behind a reading: 4 bits, r = old letter, a = new letter, from the rintro's facts hs2 ho2 hb2 in world wa
          have HOa := Lib.hid (own_onl HOr.out ho2 HSr.out (by decide))
          have HSa := Lib.hid hs2
          have HBa := Lib.hid hb2
          have HZa : Hid (w.heap.size ≤ wa.heap.size) := Lib.hid (Nat.le_trans HZr.out ho2.size)
          have HFa := Lib.hid (HFr.out.read ho2)
          clear hs2 ho2 hb2 HOr HSr HBr HZr HFr hrd
          by_cases hlim : 10 ≤ z
          · rw [if_pos hlim] at hst
            -- the number is too big: a = letter of the state behind the reading
            have hr : R = none := by rw [← HSG.out]; exact hst
            have HRN := Lib.hid hr
            clear hr hst HSG
            go_wp2_with fail
            refine (newF_any _ _).mono ?_
            rintro e w5 ⟨⟨t5, u5, rfl⟩, hb5⟩
            have HB5 := Lib.hid ((HBa.out.alloc (by have := HZa.out; omega) _).trans (hb5.mono (by have := HZa.out; simp; omega)))
            have HZ5 : Hid (w.heap.size ≤ w5.heap.size) := Lib.hid (Nat.le_trans HZa.out (Nat.le_trans (by simp) hb5.size))
            clear hb5
            go_wp2_with fail
            go_ret2
            exact ⟨HB5.out, HZ5.out, .inl ⟨HRN.out, _, _, _, rfl⟩⟩
          · rw [if_neg hlim, segS_end] at hst
            have HRS : Hid (R = some (out ++ chK 1 1 z, pos + 4)) := Lib.hid (by rw [← HSG.out, hst])
            clear hst HSG
            have hzl : z < 10 := by omega
            have hv1 : z / 1 % 10 = z := by omega
            have V1 := Lib.hid hv1
            clear hv1
            -- digit 1 of z is z (V1 tells it, 1 is the divisor): the number y of its sign, HDG
            obtain ⟨y, hy⟩ : ∃ y, y = 48 + z := ⟨_, rfl⟩
            have d5 : (48 : Int) + (z : Int) = (y : Int) := by omega
            have hy2 : y < 256 := by omega
            have HDG : Hid (bl [dgK z 1] = [.int .u8 (y : Int)]) := Lib.hid (by
              rw [← bl_single y hy2]
              have e : dgK z 1 = UInt8.ofNat y := by
                show UInt8.ofNat (48 + z / 1 % 10) = _
                rw [V1.out, hy]
              rw [e])
            clear hy
            -- one sign is appended: 117 = slot, y = its number, dgK z 1 = the sign, res ++ out = the list so far, k = how many, pos + 4 = the position, a = old names' letter, b = new names' letter (HDG tells the sign)
            go_wp2_with (with_reducible refine stop_at (o := ⟨some 117, _, _, _, _, _⟩) ?_)
            refine Lib.hid ?_
            have hob := own_up HOa.out (bal (brf wa) (.cells #[.int .u8 (y : Int)] 5))
            refine list_app2 rfl _ _ _ rfl base 5 i0 _ 1 Try.underlying22 hi0 hz0 hz1 hz2 rfl _ (k) _ rfl hob _ _ [.int .u8 (y : Int)] rfl (Rd.one rfl _ _) (fun u hu => by simp at hu; subst hu; rfl) (by simp only [List.length_singleton]; unfold maxLen; omega) (by simp only [List.length_singleton]; omega) (by have := HZa.out; simp; omega) ?_
            intro vb wb ho1 hg1 hl1
            have HFb : Hid (Fr w p _ wb vb) := Lib.hid ((HFa.out.below (bal (brf wa) (.cells #[.int .u8 (y : Int)] 5))).app hg1 hl1)
            have HOb : Hid (wb.ownsRow base 5 1 vb (k + 1) (bl (res ++ out ++ [dgK z 1]))) := Lib.hid (by rw [bl_app, HDG.out]; exact ho1)
            have HSb : Hid (SrcAt wb p sv (pos + 4)) := Lib.hid (Blk.grown (Blk.alloc HSa.out _) hg1 (own_ne hob (Blk.alloc HSa.out _) (by decide)))
            have HBb : Hid (Below B w0 wb) := Lib.hid (below_grown (HBa.out.alloc (by have := HZa.out; omega) _) hg1 (own_lessP hob hBb) (by have := HZa.out; simp; omega))
            have HZb : Hid (w.heap.size ≤ wb.heap.size) := Lib.hid (Nat.le_trans HZa.out (Nat.le_trans (by simp) hg1.size))
            clear ho1 hg1 hl1 hob HOa HSa HBa HZa HFa HDG
            clear d5 hy2
            have hout : res ++ out ++ [dgK z 1] = res ++ (out ++ chK 1 1 z) := by
              have e : chK 1 1 z = [dgK z 1] := rfl
              rw [e]; simp only [List.append_assoc]
            have HO9 : Hid (wb.ownsRow base 5 1 vb (k + 1) (bl (res ++ (out ++ chK 1 1 z)))) := Lib.hid (by rw [← hout]; exact HOb.out)
            have HN9 : Hid (k + 1 = (res ++ (out ++ chK 1 1 z)).length) := Lib.hid (by rw [← hout]; simp only [List.length_append, List.length_singleton]; have := HNr.out; rw [List.length_append] at this; omega)
            clear hout HOb HNr
            go_wp2_with fail
            go_ret2
            exact ⟨HBb.out, HZb.out, .inr ⟨_, _, _, _, HRS.out, rfl, HSb.out, HO9.out, HN9.out, HFb.out⟩⟩
        · -- 4 bits are not there: r = letter
          have hrd : Calls Try.prog 33 #[.pointer (some ⟨p, 0, none⟩), .int .i64 4] wr fun e w' => (∃ t x, e = .returned (.tuple #[.int .i64 0, .iface t x])) ∧ Below B w0 w' ∧ Onl p wr w' :=
            rdBits_no HK.out pos 4 wr HBr.out (by have := HZr.out; omega) HSr.out (by decide) (by decide) (by omega) (by omega)
          rw [if_pos (by omega)] at hst
          have hr : R = none := by rw [← HSG.out]; exact hst
          have HRN := Lib.hid hr
          clear hr hst HSG
          go_wp2_with fail
          refine hrd.mono ?_
          rintro e w4 ⟨⟨t4, x4, rfl⟩, hb4, ho4⟩
          have HB4 := Lib.hid hb4
          have HZ4 : Hid (w.heap.size ≤ w4.heap.size) := Lib.hid (Nat.le_trans HZr.out ho4.size)
          clear hb4 ho4 hrd HOr HSr HBr HZr
          go_wp2_with fail
          refine (wrapF_any t4 x4 _).mono ?_
          rintro e w5 ⟨⟨t5, u5, rfl⟩, hb5⟩
          have HB5 := Lib.hid (HB4.out.trans (hb5.mono (by have := HZ4.out; omega)))
          have HZ5 : Hid (w.heap.size ≤ w5.heap.size) := Lib.hid (Nat.le_trans HZ4.out hb5.size)
          clear hb5
          go_wp2_with fail
          go_ret2
          exact ⟨HB5.out, HZ5.out, .inl ⟨HRN.out, _, _, _, rfl⟩⟩
      · have hr := HSG.out
        rw [segS_end] at hr
        have HRS := Lib.hid hr.symm
        clear hr HSG
        go_wp2_with fail
        go_ret2
        exact ⟨HBr.out, HZr.out, .inr ⟨_, _, _, _, HRS.out, rfl, HSr.out, HOr.out, HNr.out, HFr.out⟩⟩
end Go.Proofs.Ytjkfkkenaiodoaa
