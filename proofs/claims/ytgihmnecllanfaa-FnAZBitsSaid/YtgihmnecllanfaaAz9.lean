/-
  THE LAW'S WALK: FnAZBits.
-/
import Derived.Test.YtgihmnecllanfaaAz3
import Derived.Test.YtgihmnecllanfaaAz7
import Derived.Test.YtgihmnecllanfaaAz8
import Derived.Test.YtgihmnecllanfaaSb
namespace Go.Proofs.Ytgihmnecllanfaa
open Go.RowKit

theorem biRows_row (W H : Nat) (l : List Bool) : ∀ r ∈ biRows W H l, r.length = W := by
  intro r hr
  simp only [biRows, List.mem_map] at hr
  obtain ⟨y, _, rfl⟩ := hr
  exact biRow_len _ _ _
theorem taken_any (c : Bool) (L : Nat) (v : Value) (rows : List (List Bool)) (w : World) (hv : RowsT w v rows) (hH : rows.length = wholeN c L) (hr : ∀ r ∈ rows, r.length = wholeN c L) (hL1 : 1 ≤ L) (hL : L ≤ 32) :
    Calls Try.prog 12 #[v, .bool c, .int .i64 L] w fun e w' => ∃ v', e = .returned v' ∧ Rd w' w'.heap.size v' (bv (takU c L (bitOf rows) L)) ∧ Below w.heap.size w w' := by
  cases h : c
  · exact taken_full false L v rows w hv (h ▸ hH) (h ▸ hr) hL1 hL rfl
  · exact taken_compact true L v rows w hv (h ▸ hH) (h ▸ hr) hL1 hL rfl
set_option maxRecDepth 100000 in
theorem bits_walk (c : Bool) (n : Nat) (v : Value) (l : List Bool) (w : World) (hv : Rd w w.heap.size v (bv l)) (hn : n < 256) :
    Calls Try.prog 3 #[v, .bool c, .int .u8 n] w fun e w' => e = .returned (.bool true) ∧ Below w.heap.size w w' := by
  obtain ⟨A, cap, hvf, hcap, hcm⟩ := hv.form
  rw [bv_len] at hvf hcap
  unfold maxLen at hcm
  have HV := Lib.hid hv; clear hv
  subst hvf
  by_cases hbig : 2147483647 < l.length
  · go_enter Try.func3, Try.ntmps3
    go_wp2
    go_ret
    exact ⟨rfl, brf w⟩
  · obtain ⟨hL1, hL⟩ := layN_le c n
    have HLay := Lib.hid (layers_any c n w hn)
    obtain ⟨L, hLL⟩ : ∃ x, x = layN c n := ⟨_, rfl⟩
    rw [← hLL] at hL1 hL HLay
    clear hLL
    have hwl := wholeN_le c L hL
    go_enter Try.func3, Try.ntmps3
    go_wp2_with fail
    refine HLay.out.mono ?_
    rintro e w ⟨rfl, rfl⟩
    go_wp2_with fail
    refine (places_any c L _ hL1 hL).mono ?_
    rintro e w1 ⟨g, rfl, _, _, hb⟩
    have HB1 := Lib.hid hb; clear hb
    go_wp2_with fail
    refine (biRows_any (wholeN c L) (wholeN c L) _ l _ (HV.out.up HB1.out) (by omega) (by omega)).mono ?_
    rintro e w2 ⟨rv, rfl, hrows, hb⟩
    have HR := Lib.hid hrows
    have HB2 := Lib.hid (bup HB1.out hb); clear hb hrows
    obtain ⟨rb, ro, rc, hrv, _, _, _⟩ := HR.out.at_ (by rw [biRows_len]; omega)
    rw [biRows_len] at hrv
    subst hrv
    go_wp2_with fail
    refine (azBits_any c L _ _ _ HR.out (biRows_len _ _ _) (biRows_row _ _ _) hL1 hL).mono ?_
    rintro e w3 ⟨v1, rfl, hr1, hb⟩
    have HV1 := Lib.hid hr1
    have HR3 := Lib.hid (HR.out.up hb)
    have HB3 := Lib.hid (bup HB2.out hb); clear hb hr1 HR HB2
    go_wp2_with fail
    refine (taken_any c L _ _ _ HR3.out (biRows_len _ _ _) (biRows_row _ _ _) hL1 hL).mono ?_
    rintro e w4 ⟨v2, rfl, hr2, hb⟩
    have HV2 := Lib.hid hr2
    have HV14 := Lib.hid (HV1.out.up hb)
    have HB4 := Lib.hid (bup HB3.out hb); clear hb hr2 HR3 HB3 HV1
    go_wp2_with fail
    refine (sameBits_yes v1 v2 _ _ HV14.out HV2.out).mono ?_
    rintro e w5 ⟨rfl, hb⟩
    have HB5 := Lib.hid (bup HB4.out hb); clear hb HB4
    go_wp2
    go_ret
    exact ⟨rfl, HB5.out⟩
end Go.Proofs.Ytgihmnecllanfaa
