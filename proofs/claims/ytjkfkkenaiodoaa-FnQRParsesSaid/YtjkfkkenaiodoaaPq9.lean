/-
  WALKS: toAlphaNumericChar, decodeAlphanumericSegment, decodeByteSegment.
-/
import Derived.Test.YtjkfkkenaiodoaaPq8
namespace Go.Proofs.Ytjkfkkenaiodoaa
open Go.RowKit

def alS : ByteArray := ⟨#[48, 49, 50, 51, 52, 53, 54, 55, 56, 57, 65, 66, 67, 68, 69, 70, 71, 72, 73, 74, 75, 76, 77, 78, 79, 80, 81, 82, 83, 84, 85, 86, 87, 88, 89, 90, 32, 36, 37, 42, 43, 45, 46, 47, 58]⟩
theorem alS_all : ∀ n, (h : n < 45) → (alS.data[n]'h).toNat = alphaB n := by decide +kernel
set_option maxRecDepth 100000 in
theorem toAlpha_yes (n : Nat) (w : World) (h : n < 45) : Calls Try.prog 52 #[.int .i64 n] w fun e w' => e = .returned (.tuple #[.int .u8 (alphaB n : Nat), .nilIface]) ∧ w' = w := by
  go_enter Try.func52, Try.ntmps52
  go_wp2_with fail
  go_ret2
  exact ⟨congrArg (fun t : Nat => Ending.returned (.tuple #[.int .u8 (t : Int), .nilIface])) (alS_all n h), rfl⟩
set_option maxRecDepth 100000 in
theorem toAlpha_no (n : Nat) (w : World) (h : 45 ≤ n) : Calls Try.prog 52 #[.int .i64 n] w fun e w' => (∃ t x, e = .returned (.tuple #[.int .u8 0, .iface t x])) ∧ Below w.heap.size w w' := by
  go_enter Try.func52, Try.ntmps52
  go_wp2_with fail
  refine (newF_any _ _).mono ?_
  rintro e w1 ⟨⟨t, u, rfl⟩, hb⟩
  have HB := Lib.hid ((bal (brf w) _).trans (hb.mono (by simp)))
  clear hb
  go_wp2_with fail
  go_ret2
  exact ⟨⟨_, _, rfl⟩, HB.out⟩
set_option maxRecDepth 100000 in
set_option maxHeartbeats 4000000 in
theorem decAlp_any {w0 : World} {B p : Nat} {sv : Value} {bs : List Nat} (h : SrcOk w0 B p sv bs) (pos count base n : Nat) (v : Value) (res : List UInt8) (R : Option (List UInt8 × Nat)) (w : World) (hb : Below B w0 w) (hs : SrcAt w p sv pos) (hp : pos ≤ 8 * bs.length)
    (ho : w.ownsRow base 5 1 v n (bl res)) (hn : n = res.length) (hBb : B ≤ base) (hbw : base ≤ w.heap.size) (hn2 : n + count ≤ 100000000000) (hR : segS bs 2 count count pos [] = R) :
    Calls Try.prog 41 #[.pointer (some ⟨p, 0, none⟩), v, .int .i64 count, .bool false] w fun e w' => DecQ w0 w B p base sv v res R e w' := by
  obtain ⟨i0, hi0, hz0, hz1, hz2⟩ := info_parts info_u8P
  have HK := Lib.hid h
  have HB := Lib.hid hb
  have HS := Lib.hid hs
  have HO := Lib.hid ho
  have HR := Lib.hid hR
  have HN := Lib.hid hn
  obtain ⟨vA, vcp, hvf, -, -⟩ := (RdT.of_own ho).rd.form
  obtain ⟨vn, hvn⟩ : ∃ x, x = (bl res).length := ⟨_, rfl⟩
  rw [← hvn] at hvf
  subst hvf
  clear h hb hs ho hR hn hvn
  go_enter Try.func41, Try.ntmps41
  go_wp2_with fail
  go_loopw [1, 2] (fun ov cv wr => ∃ (f c pos k : Nat) (out : List UInt8), c ≤ f ∧ k + c ≤ 100000000000 ∧ cv = .int .i64 (c : Int) ∧ pos ≤ 8 * bs.length ∧ Hid (wr.ownsRow base 5 1 ov k (bl (res ++ out))) ∧ Hid (k = (res ++ out).length) ∧ Hid (SrcAt wr p sv pos) ∧ Hid (segS bs 2 f c pos out = R) ∧ Hid (Below B w0 wr) ∧ Hid (w.heap.size ≤ wr.heap.size) ∧ Hid (Fr w p (.slice vA vn vcp) wr ov)) (fun _ cv _ => (intOf cv).toNat)
  case atStart => exact ⟨count, count, pos, n, [], Nat.le_refl _, hn2, rfl, hp, by simpa using HO, by simpa using HN, HS, HR, HB, Lib.hid (Nat.le_refl _), Lib.hid (Fr.refl w p _)⟩
  case round =>
    clear HO HN HS HR HB hp hn2
    obtain ⟨f, c, pos, k, out, hcf, hkc, rfl, hp, HOr, HNr, HSr, HSG, HBr, HZr, HFr⟩ := hrel
    rename World => wr
    by_cases h3 : 2 ≤ c
    · have h3i : (1 : Int) < (c : Int) := by omega
      obtain ⟨f', hf', hst⟩ := segS_step bs 2 f c pos out 2 11 2025 (by unfold wkK; rw [if_neg (by decide), if_pos rfl, if_pos h3]) (by omega) hcf
      by_cases h8 : pos + 11 ≤ 8 * bs.length
      · -- 11 bits are read at pos, they are there: r = old letter, a = new letter; z = the number; hrd = the contract
        have hrd : Calls Try.prog 33 #[.pointer (some ⟨p, 0, none⟩), .int .i64 11] wr fun e w' => e = .returned (.tuple #[.int .i64 ((rb bs pos 11 : Nat) : Int), .nilIface]) ∧ SrcAt w' p sv (pos + 11) ∧ Onl p wr w' ∧ Below B w0 w' :=
          rdBits_yes HK.out pos 11 wr HBr.out (by have := HZr.out; omega) HSr.out (by decide) (by decide) (by omega)
        have hz := rb_lt bs pos 11
        obtain ⟨z, hzv⟩ : ∃ z, z = rb bs pos 11 := ⟨_, rfl⟩
        rw [← hzv] at hz hrd hst
        rw [if_neg (by omega)] at hst
        clear hzv
        go_wp2_with fail
        refine hrd.mono ?_
        rintro e wa ⟨rfl, hs2, ho2, hb2⟩
        -- behind a reading: 11 bits, r = old letter, a = new letter, from the rintro's facts hs2 ho2 hb2 in world wa
        have HOa := Lib.hid (own_onl HOr.out ho2 HSr.out (by decide))
        have HSa := Lib.hid hs2
        have HBa := Lib.hid hb2
        have HZa : Hid (w.heap.size ≤ wa.heap.size) := Lib.hid (Nat.le_trans HZr.out ho2.size)
        have HFa := Lib.hid (HFr.out.read ho2)
        clear hs2 ho2 hb2 HOr HSr HBr HZr HFr hrd
        obtain ⟨q, hq⟩ : ∃ q, q = z / 45 := ⟨_, rfl⟩
        have a1 : Int.tdiv (z : Int) 45 = (q : Int) := by rw [Int.tdiv_eq_ediv_of_nonneg (by omega)]; omega
        have a2 : (z : Int) / 45 = (q : Int) := by omega
        by_cases hlim : 2025 ≤ z
        · rw [if_pos hlim] at hst
          have hqb : 45 ≤ q := by omega
          clear hq
          -- the first sign of z has no number below 45: q = its number q, a = letter
          have hr : R = none := by rw [← HSG.out]; exact hst
          have HRN := Lib.hid hr
          clear hr hst HSG
          have hta := fun w' => toAlpha_no q w' (by omega)
          go_wp2_with fail
          refine (hta _).mono ?_
          rintro e w4 ⟨⟨t4, x4, rfl⟩, hb4⟩
          have HB4 := Lib.hid (HBa.out.trans (hb4.mono (by have := HZa.out; omega)))
          have HZ4 : Hid (w.heap.size ≤ w4.heap.size) := Lib.hid (Nat.le_trans HZa.out hb4.size)
          clear hb4 hta HOa HSa HBa HZa
          go_wp2_with fail
          refine (wrapF_any t4 x4 _).mono ?_
          rintro e w5 ⟨⟨t5, u5, rfl⟩, hb5⟩
          have HB5 := Lib.hid (HB4.out.trans (hb5.mono (by have := HZ4.out; omega)))
          have HZ5 : Hid (w.heap.size ≤ w5.heap.size) := Lib.hid (Nat.le_trans HZ4.out hb5.size)
          clear hb5
          go_wp2_with fail
          go_ret2
          exact ⟨HB5.out, HZ5.out, .inl ⟨HRN.out, _, _, _, rfl⟩⟩
        · rw [if_neg hlim] at hst
          have HSG2 : Hid (segS bs 2 f' (c - 2) (pos + 11) (out ++ chK 2 2 z) = R) := Lib.hid (by rw [← HSG.out, hst])
          have hcf2 : c - 2 ≤ f' := by omega
          have HC2 : Hid ((c : Int) - 2 = ((c - 2 : Nat) : Int)) := Lib.hid (by omega)
          obtain ⟨r, hr⟩ : ∃ q, q = z % 45 := ⟨_, rfl⟩
          have c1 : Int.tmod (z : Int) 45 = (r : Int) := by rw [Int.tmod_eq_emod_of_nonneg (by omega)]; omega
          have c2 : (z : Int) % 45 = (r : Int) := by omega
          have hqb : q < 45 ∧ r < 45 := by omega
          have HCH : Hid (chK 2 2 z = [UInt8.ofNat (alphaB q)] ++ [UInt8.ofNat (alphaB r)]) := Lib.hid (by rw [hq, hr]; rfl)
          clear hst HSG hq hr
          -- the sign of number q (below 45), whose byte is aq
          have hab := (alphaB_all q (by omega)).2.1
          have hta := fun w' => toAlpha_yes q w' (by omega)
          obtain ⟨aq, haq⟩ : ∃ x, x = alphaB q := ⟨_, rfl⟩
          have HDG : Hid (bl [UInt8.ofNat (alphaB q)] = [.int .u8 (aq : Int)]) := Lib.hid (by rw [haq]; exact bl_single _ (by omega))
          rw [← haq] at hta hab
          clear haq
          go_wp2_with fail
          refine (hta _).mono ?_
          rintro e wa ⟨rfl, rfl⟩
          clear hta
          -- one sign is appended: 46 = slot, aq = its number, UInt8.ofNat (alphaB q) = the sign, res ++ out = the list so far, k = how many, pos + 11 = the position, a = old names' letter, b = new names' letter (HDG tells the sign)
          go_wp2_with (with_reducible refine stop_at (o := ⟨some 46, _, _, _, _, _⟩) ?_)
          refine Lib.hid ?_
          have hob := own_up HOa.out (bal (brf wa) (.cells #[.int .u8 (aq : Int)] 5))
          refine list_app2 rfl _ _ _ rfl base 5 i0 _ 1 Try.underlying22 hi0 hz0 hz1 hz2 rfl _ (k) _ rfl hob _ _ [.int .u8 (aq : Int)] rfl (Rd.one rfl _ _) (fun u hu => by simp at hu; subst hu; rfl) (by simp only [List.length_singleton]; unfold maxLen; omega) (by simp only [List.length_singleton]; omega) (by have := HZa.out; simp; omega) ?_
          intro vb wb ho1 hg1 hl1
          have HFb : Hid (Fr w p _ wb vb) := Lib.hid ((HFa.out.below (bal (brf wa) (.cells #[.int .u8 (aq : Int)] 5))).app hg1 hl1)
          have HOb : Hid (wb.ownsRow base 5 1 vb (k + 1) (bl (res ++ out ++ [UInt8.ofNat (alphaB q)]))) := Lib.hid (by rw [bl_app, HDG.out]; exact ho1)
          have HSb : Hid (SrcAt wb p sv (pos + 11)) := Lib.hid (Blk.grown (Blk.alloc HSa.out _) hg1 (own_ne hob (Blk.alloc HSa.out _) (by decide)))
          have HBb : Hid (Below B w0 wb) := Lib.hid (below_grown (HBa.out.alloc (by have := HZa.out; omega) _) hg1 (own_lessP hob hBb) (by have := HZa.out; simp; omega))
          have HZb : Hid (w.heap.size ≤ wb.heap.size) := Lib.hid (Nat.le_trans HZa.out (Nat.le_trans (by simp) hg1.size))
          clear ho1 hg1 hl1 hob HOa HSa HBa HZa HFa HDG
          clear a1 a2
          -- the sign of number r (below 45), whose byte is ar
          have hab := (alphaB_all r (by omega)).2.1
          have hta := fun w' => toAlpha_yes r w' (by omega)
          obtain ⟨ar, haq⟩ : ∃ x, x = alphaB r := ⟨_, rfl⟩
          have HDG : Hid (bl [UInt8.ofNat (alphaB r)] = [.int .u8 (ar : Int)]) := Lib.hid (by rw [haq]; exact bl_single _ (by omega))
          rw [← haq] at hta hab
          clear haq
          go_wp2_with fail
          refine (hta _).mono ?_
          rintro e wb ⟨rfl, rfl⟩
          clear hta
          -- one sign is appended: 56 = slot, ar = its number, UInt8.ofNat (alphaB r) = the sign, res ++ out ++ [UInt8.ofNat (alphaB q)] = the list so far, k + 1 = how many, pos + 11 = the position, b = old names' letter, c = new names' letter (HDG tells the sign)
          go_wp2_with (with_reducible refine stop_at (o := ⟨some 56, _, _, _, _, _⟩) ?_)
          refine Lib.hid ?_
          have hob := own_up HOb.out (bal (brf wb) (.cells #[.int .u8 (ar : Int)] 5))
          refine list_app2 rfl _ _ _ rfl base 5 i0 _ 1 Try.underlying22 hi0 hz0 hz1 hz2 rfl _ (k + 1) _ rfl hob _ _ [.int .u8 (ar : Int)] rfl (Rd.one rfl _ _) (fun u hu => by simp at hu; subst hu; rfl) (by simp only [List.length_singleton]; unfold maxLen; omega) (by simp only [List.length_singleton]; omega) (by have := HZb.out; simp; omega) ?_
          intro vc wc ho1 hg1 hl1
          have HFc : Hid (Fr w p _ wc vc) := Lib.hid ((HFb.out.below (bal (brf wb) (.cells #[.int .u8 (ar : Int)] 5))).app hg1 hl1)
          have HOc : Hid (wc.ownsRow base 5 1 vc (k + 1 + 1) (bl (res ++ out ++ [UInt8.ofNat (alphaB q)] ++ [UInt8.ofNat (alphaB r)]))) := Lib.hid (by rw [bl_app, HDG.out]; exact ho1)
          have HSc : Hid (SrcAt wc p sv (pos + 11)) := Lib.hid (Blk.grown (Blk.alloc HSb.out _) hg1 (own_ne hob (Blk.alloc HSb.out _) (by decide)))
          have HBc : Hid (Below B w0 wc) := Lib.hid (below_grown (HBb.out.alloc (by have := HZb.out; omega) _) hg1 (own_lessP hob hBb) (by have := HZb.out; simp; omega))
          have HZc : Hid (w.heap.size ≤ wc.heap.size) := Lib.hid (Nat.le_trans HZb.out (Nat.le_trans (by simp) hg1.size))
          clear ho1 hg1 hl1 hob HOb HSb HBb HZb HFb HDG
          clear c1 c2
          have hout : res ++ out ++ [UInt8.ofNat (alphaB q)] ++ [UInt8.ofNat (alphaB r)] = res ++ (out ++ chK 2 2 z) := by
            rw [HCH.out]; simp only [List.append_assoc]
          have HO9 : Hid (wc.ownsRow base 5 1 vc (k + 2) (bl (res ++ (out ++ chK 2 2 z)))) := Lib.hid (by rw [← hout]; exact HOc.out)
          have HN9 : Hid (k + 2 = (res ++ (out ++ chK 2 2 z)).length) := Lib.hid (by rw [← hout]; simp only [List.length_append, List.length_singleton]; have := HNr.out; rw [List.length_append] at this; omega)
          clear hout HOc HNr
          go_wp2_with fail
          go_roundw
          case rel => exact ⟨f', c - 2, pos + 11, k + 2, _, hcf2, by omega, by rw [← HC2.out], h8, HO9, HN9, HSc, HSG2, HBc, HZc, HFc⟩
          case measure => simp [intOf]; omega
      · -- 11 bits are not there: r = letter
        have hrd : Calls Try.prog 33 #[.pointer (some ⟨p, 0, none⟩), .int .i64 11] wr fun e w' => (∃ t x, e = .returned (.tuple #[.int .i64 0, .iface t x])) ∧ Below B w0 w' ∧ Onl p wr w' :=
          rdBits_no HK.out pos 11 wr HBr.out (by have := HZr.out; omega) HSr.out (by decide) (by decide) (by omega) (by omega)
        rw [if_pos (by omega)] at hst
        have hr : R = none := by rw [← HSG.out]; exact hst
        have HRN := Lib.hid hr
        clear hr hst HSG
        go_wp2_with fail
        refine hrd.mono ?_
        rintro e w4 ⟨⟨t4, x4, rfl⟩, hb4, ho4⟩
        have HB4 := Lib.hid hb4
        have HZ4 : Hid (w.heap.size ≤ w4.heap.size) := Lib.hid (Nat.le_trans HZr.out ho4.size)
        clear hb4 ho4 hrd HOr HSr HBr HZr
        go_wp2_with fail
        refine (wrapF_any t4 x4 _).mono ?_
        rintro e w5 ⟨⟨t5, u5, rfl⟩, hb5⟩
        have HB5 := Lib.hid (HB4.out.trans (hb5.mono (by have := HZ4.out; omega)))
        have HZ5 : Hid (w.heap.size ≤ w5.heap.size) := Lib.hid (Nat.le_trans HZ4.out hb5.size)
        clear hb5
        go_wp2_with fail
        go_ret2
        exact ⟨HB5.out, HZ5.out, .inl ⟨HRN.out, _, _, _, rfl⟩⟩
    · have h3i : ¬ (1 : Int) < (c : Int) := by omega
      have hc : c = 1 ∨ c = 0 := by omega
      clear h3
      rcases hc with rfl | rfl
      · obtain ⟨f', hf', hst⟩ := segS_step bs 2 f 1 pos out 1 6 45 rfl (by omega) hcf
        by_cases h8 : pos + 6 ≤ 8 * bs.length
        · -- 6 bits are read at pos, they are there: r = old letter, a = new letter; z = the number; hrd = the contract
          have hrd : Calls Try.prog 33 #[.pointer (some ⟨p, 0, none⟩), .int .i64 6] wr fun e w' => e = .returned (.tuple #[.int .i64 ((rb bs pos 6 : Nat) : Int), .nilIface]) ∧ SrcAt w' p sv (pos + 6) ∧ Onl p wr w' ∧ Below B w0 w' :=
            rdBits_yes HK.out pos 6 wr HBr.out (by have := HZr.out; omega) HSr.out (by decide) (by decide) (by omega)
          have hz := rb_lt bs pos 6
          obtain ⟨z, hzv⟩ : ∃ z, z = rb bs pos 6 := ⟨_, rfl⟩
          rw [← hzv] at hz hrd hst
          rw [if_neg (by omega)] at hst
          clear hzv
          go_wp2_with fail
          refine hrd.mono ?_
          rintro e wa ⟨rfl, hs2, ho2, hb2⟩
          -- behind a reading: 6 bits, r = old letter, a = new letter, from the rintro's facts hs2 ho2 hb2 in world wa
          have HOa := Lib.hid (own_onl HOr.out ho2 HSr.out (by decide))
          have HSa := Lib.hid hs2
          have HBa := Lib.hid hb2
          have HZa : Hid (w.heap.size ≤ wa.heap.size) := Lib.hid (Nat.le_trans HZr.out ho2.size)
          have HFa := Lib.hid (HFr.out.read ho2)
          clear hs2 ho2 hb2 HOr HSr HBr HZr HFr hrd
          by_cases hlim : 45 ≤ z
          · rw [if_pos hlim] at hst
            -- the first sign of z has no number below 45: z = its number q, a = letter
            have hr : R = none := by rw [← HSG.out]; exact hst
            have HRN := Lib.hid hr
            clear hr hst HSG
            have hta := fun w' => toAlpha_no z w' (by omega)
            go_wp2_with fail
            refine (hta _).mono ?_
            rintro e w4 ⟨⟨t4, x4, rfl⟩, hb4⟩
            have HB4 := Lib.hid (HBa.out.trans (hb4.mono (by have := HZa.out; omega)))
            have HZ4 : Hid (w.heap.size ≤ w4.heap.size) := Lib.hid (Nat.le_trans HZa.out hb4.size)
            clear hb4 hta HOa HSa HBa HZa
            go_wp2_with fail
            refine (wrapF_any t4 x4 _).mono ?_
            rintro e w5 ⟨⟨t5, u5, rfl⟩, hb5⟩
            have HB5 := Lib.hid (HB4.out.trans (hb5.mono (by have := HZ4.out; omega)))
            have HZ5 : Hid (w.heap.size ≤ w5.heap.size) := Lib.hid (Nat.le_trans HZ4.out hb5.size)
            clear hb5
            go_wp2_with fail
            go_ret2
            exact ⟨HB5.out, HZ5.out, .inl ⟨HRN.out, _, _, _, rfl⟩⟩
          · rw [if_neg hlim, segS_end] at hst
            have HRS : Hid (R = some (out ++ chK 2 1 z, pos + 6)) := Lib.hid (by rw [← HSG.out, hst])
            clear hst HSG
            have HCH : Hid (chK 2 1 z = [UInt8.ofNat (alphaB z)]) := Lib.hid rfl
            -- the sign of number z (below 45), whose byte is aq
            have hab := (alphaB_all z (by omega)).2.1
            have hta := fun w' => toAlpha_yes z w' (by omega)
            obtain ⟨aq, haq⟩ : ∃ x, x = alphaB z := ⟨_, rfl⟩
            have HDG : Hid (bl [UInt8.ofNat (alphaB z)] = [.int .u8 (aq : Int)]) := Lib.hid (by rw [haq]; exact bl_single _ (by omega))
            rw [← haq] at hta hab
            clear haq
            go_wp2_with fail
            refine (hta _).mono ?_
            rintro e wa ⟨rfl, rfl⟩
            clear hta
            -- one sign is appended: 84 = slot, aq = its number, UInt8.ofNat (alphaB z) = the sign, res ++ out = the list so far, k = how many, pos + 6 = the position, a = old names' letter, b = new names' letter (HDG tells the sign)
            go_wp2_with (with_reducible refine stop_at (o := ⟨some 84, _, _, _, _, _⟩) ?_)
            refine Lib.hid ?_
            have hob := own_up HOa.out (bal (brf wa) (.cells #[.int .u8 (aq : Int)] 5))
            refine list_app2 rfl _ _ _ rfl base 5 i0 _ 1 Try.underlying22 hi0 hz0 hz1 hz2 rfl _ (k) _ rfl hob _ _ [.int .u8 (aq : Int)] rfl (Rd.one rfl _ _) (fun u hu => by simp at hu; subst hu; rfl) (by simp only [List.length_singleton]; unfold maxLen; omega) (by simp only [List.length_singleton]; omega) (by have := HZa.out; simp; omega) ?_
            intro vb wb ho1 hg1 hl1
            have HFb : Hid (Fr w p _ wb vb) := Lib.hid ((HFa.out.below (bal (brf wa) (.cells #[.int .u8 (aq : Int)] 5))).app hg1 hl1)
            have HOb : Hid (wb.ownsRow base 5 1 vb (k + 1) (bl (res ++ out ++ [UInt8.ofNat (alphaB z)]))) := Lib.hid (by rw [bl_app, HDG.out]; exact ho1)
            have HSb : Hid (SrcAt wb p sv (pos + 6)) := Lib.hid (Blk.grown (Blk.alloc HSa.out _) hg1 (own_ne hob (Blk.alloc HSa.out _) (by decide)))
            have HBb : Hid (Below B w0 wb) := Lib.hid (below_grown (HBa.out.alloc (by have := HZa.out; omega) _) hg1 (own_lessP hob hBb) (by have := HZa.out; simp; omega))
            have HZb : Hid (w.heap.size ≤ wb.heap.size) := Lib.hid (Nat.le_trans HZa.out (Nat.le_trans (by simp) hg1.size))
            clear ho1 hg1 hl1 hob HOa HSa HBa HZa HFa HDG
            have hout : res ++ out ++ [UInt8.ofNat (alphaB z)] = res ++ (out ++ chK 2 1 z) := by
              rw [HCH.out]; simp only [List.append_assoc]
            have HO9 : Hid (wb.ownsRow base 5 1 vb (k + 1) (bl (res ++ (out ++ chK 2 1 z)))) := Lib.hid (by rw [← hout]; exact HOb.out)
            have HN9 : Hid (k + 1 = (res ++ (out ++ chK 2 1 z)).length) := Lib.hid (by rw [← hout]; simp only [List.length_append, List.length_singleton]; have := HNr.out; rw [List.length_append] at this; omega)
            clear hout HOb HNr
            go_wp2_with fail
            go_ret2
            exact ⟨HBb.out, HZb.out, .inr ⟨_, _, _, _, HRS.out, rfl, HSb.out, HO9.out, HN9.out, HFb.out⟩⟩
        · -- 6 bits are not there: r = letter
          have hrd : Calls Try.prog 33 #[.pointer (some ⟨p, 0, none⟩), .int .i64 6] wr fun e w' => (∃ t x, e = .returned (.tuple #[.int .i64 0, .iface t x])) ∧ Below B w0 w' ∧ Onl p wr w' :=
            rdBits_no HK.out pos 6 wr HBr.out (by have := HZr.out; omega) HSr.out (by decide) (by decide) (by omega) (by omega)
          rw [if_pos (by omega)] at hst
          have hr : R = none := by rw [← HSG.out]; exact hst
          have HRN := Lib.hid hr
          clear hr hst HSG
          go_wp2_with fail
          refine hrd.mono ?_
          rintro e w4 ⟨⟨t4, x4, rfl⟩, hb4, ho4⟩
          have HB4 := Lib.hid hb4
          have HZ4 : Hid (w.heap.size ≤ w4.heap.size) := Lib.hid (Nat.le_trans HZr.out ho4.size)
          clear hb4 ho4 hrd HOr HSr HBr HZr
          go_wp2_with fail
          refine (wrapF_any t4 x4 _).mono ?_
          rintro e w5 ⟨⟨t5, u5, rfl⟩, hb5⟩
          have HB5 := Lib.hid (HB4.out.trans (hb5.mono (by have := HZ4.out; omega)))
          have HZ5 : Hid (w.heap.size ≤ w5.heap.size) := Lib.hid (Nat.le_trans HZ4.out hb5.size)
          clear hb5
          go_wp2_with fail
          go_ret2
          exact ⟨HB5.out, HZ5.out, .inl ⟨HRN.out, _, _, _, rfl⟩⟩
      · have hr := HSG.out
        rw [segS_end] at hr
        have HRS := Lib.hid hr.symm
        clear hr HSG
        go_wp2_with fail
        go_ret2
        exact ⟨HBr.out, HZr.out, .inr ⟨_, _, _, _, HRS.out, rfl, HSr.out, HOr.out, HNr.out, HFr.out⟩⟩
end Go.Proofs.Ytjkfkkenaiodoaa
