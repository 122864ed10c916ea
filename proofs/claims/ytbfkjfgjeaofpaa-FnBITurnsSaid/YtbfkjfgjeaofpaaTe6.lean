/-
  WALKS: laws.biRows; the law of texts.
-/
import Derived.Test.YtbfkjfgjeaofpaaTe5
namespace Go.Proofs.Ytbfkjfgjeaofpaa
open Go.RowKit

theorem biRows_row (W H : Nat) (l : List Bool) : ∀ r ∈ biRows W H l, r.length = W := by
  intro r hr
  simp only [biRows, List.mem_map] at hr
  obtain ⟨y, _, rfl⟩ := hr
  exact biRow_len _ _ _
/-- laws.biRows. -/
theorem lawRows_any (a b : Nat) (v : Value) (l : List Bool) (w : World) (hv : Rd w w.heap.size v (bv l)) (ha : a < 256) (hb : b < 256) :
    Calls Try.prog 12 #[.int .u8 a, .int .u8 b, v] w fun e w' => ∃ v', e = .returned v' ∧ RowsT w' v' (biRows (1 + a % 70) (1 + b % 70) l) ∧ Below w.heap.size w w' := by
  have e1 : (1 : Int) + (a : Int) % 70 = ((1 + a % 70 : Nat) : Int) := by omega
  have e2 : (1 : Int) + (b : Int) % 70 = ((1 + b % 70 : Nat) : Int) := by omega
  have h1 : 1 + a % 70 ≤ 70 := by omega
  have h2 : 1 + b % 70 ≤ 70 := by omega
  generalize 1 + a % 70 = W at *
  generalize 1 + b % 70 = H at *
  go_enter Try.func12, Try.ntmps12
  go_wp2_with fail
  refine (biRows_any W H v l w hv (by omega) (by omega)).mono ?_
  rintro e w1 ⟨v1, rfl, hv1, hb1⟩
  have HV := Lib.hid (And.intro hv1 hb1); clear hv1 hb1 hv
  go_wp2
  go_ret
  exact ⟨v1, rfl, HV.out.1, HV.out.2⟩
set_option maxRecDepth 100000 in
set_option maxHeartbeats 2000000 in
/-- The law's walk. -/
theorem texts_walk (a b c : Nat) (v : Value) (l : List Bool) (w : World) (hv : Rd w w.heap.size v (bv l)) (ha : a < 256) (hb : b < 256) (hc : c < 256) :
    Calls Try.prog 4 #[.int .u8 a, .int .u8 b, v, .int .u8 c] w fun e w' => e = .returned (.bool true) ∧ Below w.heap.size w w' := by
  obtain ⟨A, cap, hvf, hcap, hcm⟩ := hv.form
  rw [bv_len] at hvf hcap
  unfold maxLen at hcm
  have hW7 : 1 + a % 70 ≤ 70 := by omega
  have hH7 : 1 + b % 70 ≤ 70 := by omega
  have hW1 : 1 ≤ 1 + a % 70 := by omega
  have hH1 : 1 ≤ 1 + b % 70 := by omega
  have hlw := fun v' w' hv' => lawRows_any a b v' l w' hv' ha hb
  have hH := biRows_len (1 + a % 70) (1 + b % 70) l
  have hr := biRows_row (1 + a % 70) (1 + b % 70) l
  subst hvf
  by_cases hbig : 2147483647 < l.length
  · clear hH hr hlw
    go_enter Try.func4, Try.ntmps4
    go_wp2
    go_ret
    exact ⟨rfl, brf w⟩
  · have hR := Lib.hid (And.intro hH hr); clear hH hr hlw
    generalize hWW : 1 + a % 70 = W at *
    generalize hHH : 1 + b % 70 = H at *
    have HWH := Lib.hid (And.intro hWW hHH); clear hWW hHH
    obtain ⟨hH, hr⟩ := hR.out
    have h4 : c % 4 = 0 ∨ c % 4 = 1 ∨ c % 4 = 2 ∨ c % 4 = 3 := by omega
    rcases h4 with h | h | h | h
    · have h4 : (c : Int) % 4 = 0 := by omega
      go_enter Try.func4, Try.ntmps4
      go_wp2_with fail
      refine (lawRows_any a b _ l w hv ha hb).mono ?_
      rw [HWH.out.1, HWH.out.2]
      rintro e w1 ⟨v1, rfl, hv1, hb1⟩
      have HB1 := Lib.hid hb1; have HV1 := Lib.hid hv1; clear hb1 hv1 hv
      go_wp2_with fail
      have hV2 := HV1.out.up (bal (bal (brf w1) (.cells #[.string ⟨#[88, 32]⟩, .string ⟨#[35]⟩, .string ⟨#[49]⟩, .string ⟨#[97, 98]⟩] 9)) (.cells #[.string ⟨#[32, 32]⟩, .string ⟨#[46]⟩, .string ⟨#[48]⟩, .string ⟨#[99, 100, 101]⟩] 9))
      have HB2 := Lib.hid (bal (bal HB1.out (.cells #[.string ⟨#[88, 32]⟩, .string ⟨#[35]⟩, .string ⟨#[49]⟩, .string ⟨#[97, 98]⟩] 9)) (.cells #[.string ⟨#[32, 32]⟩, .string ⟨#[46]⟩, .string ⟨#[48]⟩, .string ⟨#[99, 100, 101]⟩] 9))
      refine (gridText_any W H v1 (biRows W H l) ⟨#[88, 32]⟩ ⟨#[32, 32]⟩ ⟨#[10]⟩ _ hV2 hH hr hW1 hH1 (by omega) (by omega) (by decide) (by decide) (by decide)).mono ?_
      rintro e w2 ⟨rfl, hb2⟩
      have HV2 := Lib.hid (hV2.up hb2)
      have HB3 := Lib.hid (bup HB2.out hb2)
      clear hb2 hV2 HV1 HB1 HB2
      obtain ⟨S, hS⟩ : ∃ S, S = ofL (textL ⟨#[88, 32]⟩ ⟨#[32, 32]⟩ ⟨#[10]⟩ (biRows W H l)) := ⟨_, rfl⟩
      have HS : Hid (S.data.toList = textL ⟨#[88, 32]⟩ ⟨#[32, 32]⟩ (ofL [10]) (biRows W H l)) := Lib.hid (by rw [hS, ofL_data]; rfl)
      have HSE := Lib.hid hS
      rw [← hS]; clear hS
      go_wp2_with fail
      refine (gridParse_any S ⟨#[88, 32]⟩ ⟨#[32, 32]⟩ (biRows W H l) W H 88 32 [32] [32] _ HS.out rfl rfl (by decide) (by decide) (by decide) (by decide) (by decide) hr hH hW1 hH1 hW7 hH7 (by decide) (by decide)).mono ?_
      rintro e w3 ⟨v3, rfl, hv3, hb3⟩
      have HV3 := Lib.hid hv3
      have HV4 := Lib.hid (HV2.out.up hb3)
      have HB4 := Lib.hid (bup HB3.out hb3)
      clear hv3 hb3 HV2 HB3
      go_wp2_with fail
      refine (biText_any v1 (biRows W H l) ⟨#[88, 32]⟩ ⟨#[32, 32]⟩ ⟨#[10]⟩ W _ HV4.out hr (by omega) (by omega) (by decide) (by decide) (by decide) (by omega) (by omega)).mono ?_
      rintro e w4 ⟨rfl, hb4⟩
      have HV5 := Lib.hid (And.intro (HV3.out.up hb4) (HV4.out.up hb4))
      have HB5 := Lib.hid (bup HB4.out hb4)
      clear hb4 HV3 HV4 HB4
      rw [← HSE.out]
      go_wp2_with fail
      refine (sameRows_yes v3 v1 (biRows W H l) _ HV5.out.1 HV5.out.2 (by omega)).mono ?_
      rintro e w5 ⟨rfl, hb5⟩
      have HB6 := Lib.hid (bup HB5.out hb5)
      clear hb5 HV5 HB5
      go_wp2
      go_ret
      exact ⟨rfl, HB6.out⟩
    · have h4 : (c : Int) % 4 = 1 := by omega
      go_enter Try.func4, Try.ntmps4
      go_wp2_with fail
      refine (lawRows_any a b _ l w hv ha hb).mono ?_
      rw [HWH.out.1, HWH.out.2]
      rintro e w1 ⟨v1, rfl, hv1, hb1⟩
      have HB1 := Lib.hid hb1; have HV1 := Lib.hid hv1; clear hb1 hv1 hv
      go_wp2_with fail
      have hV2 := HV1.out.up (bal (bal (brf w1) (.cells #[.string ⟨#[88, 32]⟩, .string ⟨#[35]⟩, .string ⟨#[49]⟩, .string ⟨#[97, 98]⟩] 9)) (.cells #[.string ⟨#[32, 32]⟩, .string ⟨#[46]⟩, .string ⟨#[48]⟩, .string ⟨#[99, 100, 101]⟩] 9))
      have HB2 := Lib.hid (bal (bal HB1.out (.cells #[.string ⟨#[88, 32]⟩, .string ⟨#[35]⟩, .string ⟨#[49]⟩, .string ⟨#[97, 98]⟩] 9)) (.cells #[.string ⟨#[32, 32]⟩, .string ⟨#[46]⟩, .string ⟨#[48]⟩, .string ⟨#[99, 100, 101]⟩] 9))
      refine (gridText_any W H v1 (biRows W H l) ⟨#[35]⟩ ⟨#[46]⟩ ⟨#[10]⟩ _ hV2 hH hr hW1 hH1 (by omega) (by omega) (by decide) (by decide) (by decide)).mono ?_
      rintro e w2 ⟨rfl, hb2⟩
      have HV2 := Lib.hid (hV2.up hb2)
      have HB3 := Lib.hid (bup HB2.out hb2)
      clear hb2 hV2 HV1 HB1 HB2
      obtain ⟨S, hS⟩ : ∃ S, S = ofL (textL ⟨#[35]⟩ ⟨#[46]⟩ ⟨#[10]⟩ (biRows W H l)) := ⟨_, rfl⟩
      have HS : Hid (S.data.toList = textL ⟨#[35]⟩ ⟨#[46]⟩ (ofL [10]) (biRows W H l)) := Lib.hid (by rw [hS, ofL_data]; rfl)
      have HSE := Lib.hid hS
      rw [← hS]; clear hS
      go_wp2_with fail
      refine (gridParse_any S ⟨#[35]⟩ ⟨#[46]⟩ (biRows W H l) W H 35 46 [] [] _ HS.out rfl rfl (by decide) (by decide) (by decide) (by decide) (by decide) hr hH hW1 hH1 hW7 hH7 (by decide) (by decide)).mono ?_
      rintro e w3 ⟨v3, rfl, hv3, hb3⟩
      have HV3 := Lib.hid hv3
      have HV4 := Lib.hid (HV2.out.up hb3)
      have HB4 := Lib.hid (bup HB3.out hb3)
      clear hv3 hb3 HV2 HB3
      go_wp2_with fail
      refine (biText_any v1 (biRows W H l) ⟨#[35]⟩ ⟨#[46]⟩ ⟨#[10]⟩ W _ HV4.out hr (by omega) (by omega) (by decide) (by decide) (by decide) (by omega) (by omega)).mono ?_
      rintro e w4 ⟨rfl, hb4⟩
      have HV5 := Lib.hid (And.intro (HV3.out.up hb4) (HV4.out.up hb4))
      have HB5 := Lib.hid (bup HB4.out hb4)
      clear hb4 HV3 HV4 HB4
      rw [← HSE.out]
      go_wp2_with fail
      refine (sameRows_yes v3 v1 (biRows W H l) _ HV5.out.1 HV5.out.2 (by omega)).mono ?_
      rintro e w5 ⟨rfl, hb5⟩
      have HB6 := Lib.hid (bup HB5.out hb5)
      clear hb5 HV5 HB5
      go_wp2
      go_ret
      exact ⟨rfl, HB6.out⟩
    · have h4 : (c : Int) % 4 = 2 := by omega
      go_enter Try.func4, Try.ntmps4
      go_wp2_with fail
      refine (lawRows_any a b _ l w hv ha hb).mono ?_
      rw [HWH.out.1, HWH.out.2]
      rintro e w1 ⟨v1, rfl, hv1, hb1⟩
      have HB1 := Lib.hid hb1; have HV1 := Lib.hid hv1; clear hb1 hv1 hv
      go_wp2_with fail
      have hV2 := HV1.out.up (bal (bal (brf w1) (.cells #[.string ⟨#[88, 32]⟩, .string ⟨#[35]⟩, .string ⟨#[49]⟩, .string ⟨#[97, 98]⟩] 9)) (.cells #[.string ⟨#[32, 32]⟩, .string ⟨#[46]⟩, .string ⟨#[48]⟩, .string ⟨#[99, 100, 101]⟩] 9))
      have HB2 := Lib.hid (bal (bal HB1.out (.cells #[.string ⟨#[88, 32]⟩, .string ⟨#[35]⟩, .string ⟨#[49]⟩, .string ⟨#[97, 98]⟩] 9)) (.cells #[.string ⟨#[32, 32]⟩, .string ⟨#[46]⟩, .string ⟨#[48]⟩, .string ⟨#[99, 100, 101]⟩] 9))
      refine (gridText_any W H v1 (biRows W H l) ⟨#[49]⟩ ⟨#[48]⟩ ⟨#[10]⟩ _ hV2 hH hr hW1 hH1 (by omega) (by omega) (by decide) (by decide) (by decide)).mono ?_
      rintro e w2 ⟨rfl, hb2⟩
      have HV2 := Lib.hid (hV2.up hb2)
      have HB3 := Lib.hid (bup HB2.out hb2)
      clear hb2 hV2 HV1 HB1 HB2
      obtain ⟨S, hS⟩ : ∃ S, S = ofL (textL ⟨#[49]⟩ ⟨#[48]⟩ ⟨#[10]⟩ (biRows W H l)) := ⟨_, rfl⟩
      have HS : Hid (S.data.toList = textL ⟨#[49]⟩ ⟨#[48]⟩ (ofL [10]) (biRows W H l)) := Lib.hid (by rw [hS, ofL_data]; rfl)
      have HSE := Lib.hid hS
      rw [← hS]; clear hS
      go_wp2_with fail
      refine (gridParse_any S ⟨#[49]⟩ ⟨#[48]⟩ (biRows W H l) W H 49 48 [] [] _ HS.out rfl rfl (by decide) (by decide) (by decide) (by decide) (by decide) hr hH hW1 hH1 hW7 hH7 (by decide) (by decide)).mono ?_
      rintro e w3 ⟨v3, rfl, hv3, hb3⟩
      have HV3 := Lib.hid hv3
      have HV4 := Lib.hid (HV2.out.up hb3)
      have HB4 := Lib.hid (bup HB3.out hb3)
      clear hv3 hb3 HV2 HB3
      go_wp2_with fail
      refine (biText_any v1 (biRows W H l) ⟨#[49]⟩ ⟨#[48]⟩ ⟨#[10]⟩ W _ HV4.out hr (by omega) (by omega) (by decide) (by decide) (by decide) (by omega) (by omega)).mono ?_
      rintro e w4 ⟨rfl, hb4⟩
      have HV5 := Lib.hid (And.intro (HV3.out.up hb4) (HV4.out.up hb4))
      have HB5 := Lib.hid (bup HB4.out hb4)
      clear hb4 HV3 HV4 HB4
      rw [← HSE.out]
      go_wp2_with fail
      refine (sameRows_yes v3 v1 (biRows W H l) _ HV5.out.1 HV5.out.2 (by omega)).mono ?_
      rintro e w5 ⟨rfl, hb5⟩
      have HB6 := Lib.hid (bup HB5.out hb5)
      clear hb5 HV5 HB5
      go_wp2
      go_ret
      exact ⟨rfl, HB6.out⟩
    · have h4 : (c : Int) % 4 = 3 := by omega
      go_enter Try.func4, Try.ntmps4
      go_wp2_with fail
      refine (lawRows_any a b _ l w hv ha hb).mono ?_
      rw [HWH.out.1, HWH.out.2]
      rintro e w1 ⟨v1, rfl, hv1, hb1⟩
      have HB1 := Lib.hid hb1; have HV1 := Lib.hid hv1; clear hb1 hv1 hv
      go_wp2_with fail
      have hV2 := HV1.out.up (bal (bal (brf w1) (.cells #[.string ⟨#[88, 32]⟩, .string ⟨#[35]⟩, .string ⟨#[49]⟩, .string ⟨#[97, 98]⟩] 9)) (.cells #[.string ⟨#[32, 32]⟩, .string ⟨#[46]⟩, .string ⟨#[48]⟩, .string ⟨#[99, 100, 101]⟩] 9))
      have HB2 := Lib.hid (bal (bal HB1.out (.cells #[.string ⟨#[88, 32]⟩, .string ⟨#[35]⟩, .string ⟨#[49]⟩, .string ⟨#[97, 98]⟩] 9)) (.cells #[.string ⟨#[32, 32]⟩, .string ⟨#[46]⟩, .string ⟨#[48]⟩, .string ⟨#[99, 100, 101]⟩] 9))
      refine (gridText_any W H v1 (biRows W H l) ⟨#[97, 98]⟩ ⟨#[99, 100, 101]⟩ ⟨#[10]⟩ _ hV2 hH hr hW1 hH1 (by omega) (by omega) (by decide) (by decide) (by decide)).mono ?_
      rintro e w2 ⟨rfl, hb2⟩
      have HV2 := Lib.hid (hV2.up hb2)
      have HB3 := Lib.hid (bup HB2.out hb2)
      clear hb2 hV2 HV1 HB1 HB2
      obtain ⟨S, hS⟩ : ∃ S, S = ofL (textL ⟨#[97, 98]⟩ ⟨#[99, 100, 101]⟩ ⟨#[10]⟩ (biRows W H l)) := ⟨_, rfl⟩
      have HS : Hid (S.data.toList = textL ⟨#[97, 98]⟩ ⟨#[99, 100, 101]⟩ (ofL [10]) (biRows W H l)) := Lib.hid (by rw [hS, ofL_data]; rfl)
      have HSE := Lib.hid hS
      rw [← hS]; clear hS
      go_wp2_with fail
      refine (gridParse_any S ⟨#[97, 98]⟩ ⟨#[99, 100, 101]⟩ (biRows W H l) W H 97 99 [98] [100, 101] _ HS.out rfl rfl (by decide) (by decide) (by decide) (by decide) (by decide) hr hH hW1 hH1 hW7 hH7 (by decide) (by decide)).mono ?_
      rintro e w3 ⟨v3, rfl, hv3, hb3⟩
      have HV3 := Lib.hid hv3
      have HV4 := Lib.hid (HV2.out.up hb3)
      have HB4 := Lib.hid (bup HB3.out hb3)
      clear hv3 hb3 HV2 HB3
      go_wp2_with fail
      refine (biText_any v1 (biRows W H l) ⟨#[97, 98]⟩ ⟨#[99, 100, 101]⟩ ⟨#[10]⟩ W _ HV4.out hr (by omega) (by omega) (by decide) (by decide) (by decide) (by omega) (by omega)).mono ?_
      rintro e w4 ⟨rfl, hb4⟩
      have HV5 := Lib.hid (And.intro (HV3.out.up hb4) (HV4.out.up hb4))
      have HB5 := Lib.hid (bup HB4.out hb4)
      clear hb4 HV3 HV4 HB4
      rw [← HSE.out]
      go_wp2_with fail
      refine (sameRows_yes v3 v1 (biRows W H l) _ HV5.out.1 HV5.out.2 (by omega)).mono ?_
      rintro e w5 ⟨rfl, hb5⟩
      have HB6 := Lib.hid (bup HB5.out hb5)
      clear hb5 HV5 HB5
      go_wp2
      go_ret
      exact ⟨rfl, HB6.out⟩
end Go.Proofs.Ytbfkjfgjeaofpaa
