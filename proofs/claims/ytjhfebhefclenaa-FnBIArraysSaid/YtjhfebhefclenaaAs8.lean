/-
  THE LAW's walk: laws.FnBIArrays.
-/
import Derived.Test.YtjhfebhefclenaaAs3
import Derived.Test.YtjhfebhefclenaaAs5
import Derived.Test.YtjhfebhefclenaaAs7
import Derived.Test.YtjhfebhefclenaaSb
namespace Go.Proofs.Ytjhfebhefclenaa
open Go.RowKit

theorem fitS_all' {st : List Step} (h : fitS st = true) : ∀ s ∈ st, s.bits.length ≤ 2147483647 := fun s hs => by
  unfold fitS at h
  rw [Bool.and_eq_true, List.all_eq_true] at h
  have := h.2 s hs
  unfold fitB at this
  exact of_decide_eq_true this
set_option maxRecDepth 100000 in
theorem biArrays_walk (v0 v1 : Value) (l : List Bool) (st : List Step) (W : World) (hv : Rd W W.heap.size v0 (bv l)) (hst : RdS W W.heap.size v1 st) :
    Calls Try.prog 3 #[v0, v1] W fun e w' => e = .returned (.bool true) ∧ Below W.heap.size W w' := by
  obtain ⟨A, cap, rfl, k1, k2⟩ := hv.form
  rw [bv_len] at k1
  unfold maxLen at k2
  have HV := Lib.hid hv
  have HS := Lib.hid hst
  have hfit := fits1_any v1 st W hst
  rw [bv_len] at HV ⊢
  clear hv hst
  by_cases hbig : l.length ≤ 2147483647
  · have hbig2 : (l.length : Int) ≤ 2147483647 := by omega
    go_enter Try.func3, Try.ntmps3
    go_wp2_with fail
    refine hfit.mono ?_
    rintro e w0 ⟨rfl, hb0⟩
    have HV0 := Lib.hid (HV.out.up hb0)
    have HS0 := Lib.hid (HS.out.up hb0)
    have HB0 := Lib.hid hb0
    clear hb0 HV HS hfit
    cases hf : fitS st
    · clear hf
      go_wp2_with fail
      go_ret
      exact ⟨rfl, HB0.out⟩
    · have HF := Lib.hid (fitS_all' hf)
      clear hf
      go_wp2_with fail
      refine (biBits_any _ l 200 w0 HV0.out (by omega)).mono ?_
      rintro e w1 ⟨vb, rfl, hvb, hb1⟩
      have HVB := Lib.hid hvb
      have HS1 := Lib.hid (HS0.out.up hb1)
      have HB1 := Lib.hid (bup HB0.out hb1)
      obtain ⟨Ab, cb, rfl, q1, q2⟩ := hvb.form
      rw [bv_len] at HVB q1
      unfold maxLen at q2
      have hn : (l.take 200).length ≤ 200 := by rw [List.length_take]; omega
      clear hvb hb1 HS0 HB0 HV0
      generalize l.take 200 = L at *
      rw [bv_len]
      go_wp2_with fail
      refine (bisteps_any v1 st L.length w1 HS1.out hn HF.out).mono ?_
      rintro e w2 ⟨v2, os, rfl, hos, hok, hle, hb2⟩
      have HV2 := Lib.hid (HVB.out.up hb2)
      have HO2 := Lib.hid hos
      have HK := Lib.hid hok
      have HB2 := Lib.hid (bup HB1.out hb2)
      clear hos hok hb2 HVB HS1 HB1
      go_wp2_with fail
      refine (arrayRun_any _ v2 L os w2 HV2.out HO2.out HK.out hn hle).mono ?_
      rintro e w3 ⟨r1, r2, rfl, hr1, hr2, hb3⟩
      have HV3 := Lib.hid (HV2.out.up hb3)
      have HO3 := Lib.hid (HO2.out.up hb3)
      have HB3 := Lib.hid (bup HB2.out hb3)
      have HR1 := Lib.hid hr1
      have HR2 := Lib.hid hr2
      clear hr1 hr2 hb3 HV2 HO2 HB2
      go_wp2_with fail
      refine (biArray_any _ v2 L os w3 HV3.out HO3.out HK.out hn hle).mono ?_
      rintro e w4 ⟨t1, t2, rfl, ht1, ht2, hb4⟩
      have HB4 := Lib.hid (bup HB3.out hb4)
      have HR14 := Lib.hid (HR1.out.up hb4)
      have HR24 := Lib.hid (HR2.out.up hb4)
      have HT1 := Lib.hid ht1
      have HT2 := Lib.hid ht2
      clear ht1 ht2 hb4 HV3 HO3 HB3 HR1 HR2 HK hle
      generalize bitsK L os os.length = X at *
      generalize tookK L os os.length = Y at *
      go_wp2_with fail
      refine (sameBits_yes _ _ X w4 HR14.out HT1.out).mono ?_
      rintro e w5 ⟨rfl, hb5⟩
      have HB5 := Lib.hid (bup HB4.out hb5)
      have HR25 := Lib.hid (HR24.out.up hb5)
      have HT25 := Lib.hid (HT2.out.up hb5)
      clear hb5 HR14 HT1 HR24 HT2 HB4
      go_wp2_with fail
      refine (sameBits_yes _ _ Y w5 HR25.out HT25.out).mono ?_
      rintro e w6 ⟨rfl, hb6⟩
      have HB6 := Lib.hid (bup HB5.out hb6)
      clear hb6 HR25 HT25 HB5
      go_wp2_with fail
      go_ret
      exact ⟨rfl, HB6.out⟩
  · have hbig2 : ¬ (l.length : Int) ≤ 2147483647 := by omega
    clear hfit
    go_enter Try.func3, Try.ntmps3
    go_wp2_with fail
    go_ret
    exact ⟨rfl, brf W⟩
end Go.Proofs.Ytjhfebhefclenaa
