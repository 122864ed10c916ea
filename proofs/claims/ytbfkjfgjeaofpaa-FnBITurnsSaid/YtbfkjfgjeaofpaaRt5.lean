/-
  THE WALK OF THE LAW of turns.
-/
import Derived.Test.YtbfkjfgjeaofpaaRt4
namespace Go.Proofs.Ytbfkjfgjeaofpaa
open Go.RowKit

/-- Bits turned by a half. -/
def halfF (W H : Nat) (f : Nat → Nat → Bool) : Nat → Nat → Bool := fun x y => f (W - 1 - x) (H - 1 - y)
theorem rowsF_congr (W H : Nat) (f f' : Nat → Nat → Bool) (h : ∀ x y, x < W → y < H → f x y = f' x y) : rowsF W H f = rowsF W H f' := by
  unfold rowsF
  refine List.map_congr_left fun y hy => List.map_congr_left fun x hx => ?_
  exact h x y (by simpa using hx) (by simpa using hy)
theorem bitOf_rowsF (W H : Nat) (f : Nat → Nat → Bool) (x y : Nat) (hx : x < W) (hy : y < H) : bitOf (rowsF W H f) x y = f x y := by
  unfold bitOf
  rw [rowsF_at W H f y hy, List.getD, List.getElem?_eq_getElem (by rw [rowF_len]; exact hx)]
  exact rowF_at W f y x _
theorem rowsF_half (W H : Nat) (f : Nat → Nat → Bool) : rowsF W H (halfF W H (bitOf (rowsF W H (halfF W H f)))) = rowsF W H f := by
  refine rowsF_congr W H _ _ fun x y hx hy => ?_
  unfold halfF
  rw [bitOf_rowsF W H _ _ _ (by omega) (by omega), show W - 1 - (W - 1 - x) = x by omega, show H - 1 - (H - 1 - y) = y by omega]
theorem grid88 (v : Value) (rows : List (List Bool)) (W H gs : Nat) (w : World) (hv : RowsT w v rows) (hr : ∀ r ∈ rows, r.length = W) (hH : rows.length = H) (hW1 : 1 ≤ W) (hH1 : 1 ≤ H) (hW4 : W ≤ 4096) (hH4 : H ≤ 4096)
    (hgs : Blk w gs 48 (stepsC [8, 8]).toArray) :
    Calls Try.prog 22 #[v, .slice (some ⟨gs, 0, none⟩) 2 2] w fun e w' => ∃ v' fv, e = .returned (.tuple #[v', fv]) ∧ RowsT w' v' (rowsF W H (halfF W H (bitOf rows))) ∧ Below w.heap.size w w' := by
  refine (gridRun_any v rows W H gs [8, 8] w hv hr hH hW1 hH1 hW4 hH4 hgs (by simp) (by decide) (fun k hk => ?_) (fun k hk h7 => ?_))
  · have : k = 0 ∨ k = 1 ∨ k = 2 := by simp at hk; omega
    rcases this with rfl | rfl | rfl
    · exact ⟨hW1, hW4, hH1, hH4⟩
    · exact ⟨hH1, hH4, hW1, hW4⟩
    · exact ⟨hW1, hW4, hH1, hH4⟩
  · have : k = 0 ∨ k = 1 := by simp at hk; omega
    rcases this with rfl | rfl <;> simp at h7
theorem grid7 (v : Value) (rows : List (List Bool)) (W H gs : Nat) (w : World) (hv : RowsT w v rows) (hr : ∀ r ∈ rows, r.length = W) (hH : rows.length = H) (hW1 : 1 ≤ W) (hH1 : 1 ≤ H) (hW4 : W ≤ 4096) (hH4 : H ≤ 4096) (h32 : 1 ≤ W % 32)
    (hgs : Blk w gs 48 (stepsC [7]).toArray) :
    Calls Try.prog 22 #[v, .slice (some ⟨gs, 0, none⟩) 1 1] w fun e w' => ∃ v' fv, e = .returned (.tuple #[v', fv]) ∧ RowsT w' v' (rowsF W H (halfF W H (bitOf rows))) ∧ Below w.heap.size w w' := by
  refine (gridRun_any v rows W H gs [7] w hv hr hH hW1 hH1 hW4 hH4 hgs (by simp) (by decide) (fun k hk => ?_) (fun k hk h7 => ?_))
  · have : k = 0 ∨ k = 1 := by simp at hk; omega
    rcases this with rfl | rfl
    · exact ⟨hW1, hW4, hH1, hH4⟩
    · exact ⟨hW1, hW4, hH1, hH4⟩
  · have : k = 0 := by simp at hk; omega
    subst this; exact h32
set_option maxRecDepth 100000 in
set_option maxHeartbeats 2000000 in
theorem turns_walk (a b : Nat) (v : Value) (l : List Bool) (w : World) (hv : Rd w w.heap.size v (bv l)) (ha : a < 256) (hb : b < 256) :
    Calls Try.prog 6 #[.int .u8 a, .int .u8 b, v] w fun e w' => e = .returned (.bool true) ∧ Below w.heap.size w w' := by
  obtain ⟨A, cap, hvf, hcap, hcm⟩ := hv.form
  rw [bv_len] at hvf hcap
  unfold maxLen at hcm
  have hW7 : 1 + a % 70 ≤ 70 := by omega
  have hH7 : 1 + b % 70 ≤ 70 := by omega
  have hW1 : 1 ≤ 1 + a % 70 := by omega
  have hH1 : 1 ≤ 1 + b % 70 := by omega
  have hH := biRows_len (1 + a % 70) (1 + b % 70) l
  have hr := biRows_row (1 + a % 70) (1 + b % 70) l
  subst hvf
  by_cases hbig : 2147483647 < l.length
  · clear hH hr
    go_enter Try.func6, Try.ntmps6
    go_wp2
    go_ret
    exact ⟨rfl, brf w⟩
  · have hR := Lib.hid (And.intro hH hr); clear hH hr
    generalize hWW : 1 + a % 70 = W at *
    generalize hHH : 1 + b % 70 = H at *
    have HWH := Lib.hid (And.intro hWW hHH); clear hWW hHH
    generalize hrw : biRows W H l = rows at *
    have HRW := Lib.hid hrw; clear hrw
    obtain ⟨hH, hr⟩ := hR.out
    have hlw : Calls Try.prog 12 #[.int .u8 a, .int .u8 b, .slice A l.length cap] w fun e w' => ∃ v', e = .returned v' ∧ RowsT w' v' rows ∧ Below w.heap.size w w' := by
      have := lawRows_any a b _ l w hv ha hb
      rw [HWH.out.1, HWH.out.2, HRW.out] at this; exact this
    have HLW := Lib.hid hlw; clear hlw hv
    have HR0 := Lib.hid (rowsF_bitOf W H rows hH hr)
    have h0 : 0 < rows.length := by omega
    have HX := Lib.hid (And.intro hH hr); clear hH hr
    go_enter Try.func6, Try.ntmps6
    go_wp2_with fail
    refine HLW.out.mono ?_
    rintro e w1 ⟨v1, rfl, hv1, hb1⟩
    have HV1 := Lib.hid hv1; have HB1 := Lib.hid hb1
    obtain ⟨ba, oa, ca, rfl, ha1, ha2, HA⟩ := hv1.at_ h0
    obtain ⟨u0, hc0, hu0⟩ := HA.out 0 h0
    have hg0 : rows.getD 0 [] = rows[0] := by rw [List.getD, List.getElem?_eq_getElem h0]; rfl
    have hl0 : (rows.getD 0 []).length = W := by rw [hg0]; exact HX.out.2 _ (List.getElem_mem h0)
    obtain ⟨b0, o0, c0', rfl, hd1, hd2, _⟩ := row_at hu0 (by omega)
    rw [hl0] at hc0 hd1
    rw [HX.out.1] at ha1 HV1 ⊢
    rw [Nat.add_zero] at hc0
    clear hu0 hl0 hg0 hb1 hv1 HA h0
    by_cases h32 : W % 32 = 0
    · go_wp2
      go_ret
      exact ⟨rfl, HB1.out⟩
    · have h32' : 1 ≤ W % 32 := by omega
      obtain ⟨wA, hwA⟩ : ∃ x, x = w1.alloc (.cells (stepsC [8, 8]).toArray 48) := ⟨_, rfl⟩
      have kA : Blk wA w1.heap.size 48 (stepsC [8, 8]).toArray := by rw [hwA]; exact Blk.fresh w1 _ _
      have bA : Below w1.heap.size w1 wA := by rw [hwA]; exact bal (brf w1) _
      have hgA := grid88 _ rows W H w1.heap.size wA (HV1.out.up bA) HX.out.2 HX.out.1 hW1 hH1 (by omega) (by omega) kA
      have HBA := Lib.hid (bup HB1.out bA)
      have HVA := Lib.hid (HV1.out.up bA)
      have cA := cell_up hc0 bA
      have HGA := Lib.hid hgA
      have HWA := Lib.hid hwA.symm
      clear hgA kA bA hwA HV1 HB1
      go_wp2_with fail
      show Calls Try.prog 22 _ (w1.alloc (.cells (stepsC [8, 8]).toArray 48)) _
      rw [HWA.out]
      refine HGA.out.mono ?_
      rintro e w2 ⟨v2, f2, rfl, hv2, hb2⟩
      have HB2 := Lib.hid (bup HBA.out hb2)
      have HV12 := Lib.hid (HVA.out.up hb2)
      have c12 := cell_up cA hb2
      generalize hAA : rowsF W H (halfF W H (bitOf rows)) = ar at *
      have har : ∀ r ∈ ar, r.length = W := by rw [← hAA]; exact rowsF_row W H _
      have hal : ar.length = H := by rw [← hAA]; exact rowsF_len W H _
      have haa : rowsF W H (halfF W H (bitOf ar)) = rows := by rw [← hAA, rowsF_half]; exact HR0.out
      have HAR := Lib.hid (And.intro har (And.intro hal haa)); have HAA := Lib.hid hAA; clear har hal haa hAA
      have HV2 := Lib.hid hv2
      clear hb2 hv2 cA HVA HBA HGA HWA
      -- the second run
      obtain ⟨wA, hwA⟩ : ∃ x, x = w2.alloc (.cells (stepsC [7]).toArray 48) := ⟨_, rfl⟩
      have kA : Blk wA w2.heap.size 48 (stepsC [7]).toArray := by rw [hwA]; exact Blk.fresh w2 _ _
      have bA : Below w2.heap.size w2 wA := by rw [hwA]; exact bal (brf w2) _
      have hgA := grid7 _ rows W H w2.heap.size wA (HV12.out.up bA) HX.out.2 HX.out.1 hW1 hH1 (by omega) (by omega) h32' kA
      have HBA := Lib.hid (bup HB2.out bA)
      have HVA := Lib.hid (And.intro (HV12.out.up bA) (HV2.out.up bA))
      have cA := cell_up c12 bA
      have HGA := Lib.hid hgA
      have HWA := Lib.hid hwA.symm
      clear hgA kA bA hwA HV12 HV2 HB2 hc0 c12
      go_wp2_with fail
      show Calls Try.prog 22 _ (w2.alloc (.cells (stepsC [7]).toArray 48)) _
      rw [HWA.out]
      refine HGA.out.mono ?_
      rintro e w3 ⟨v3, f3, rfl, hv3, hb3⟩
      rw [HAA.out] at hv3
      have HB3 := Lib.hid (bup HBA.out hb3)
      have HV3 := Lib.hid (And.intro (HVA.out.1.up hb3) (And.intro (HVA.out.2.up hb3) hv3))
      have c3 := cell_up cA hb3
      clear hb3 hv3 cA HVA HBA HGA HWA
      -- the third run
      obtain ⟨wA, hwA⟩ : ∃ x, x = w3.alloc (.cells (stepsC [8, 8]).toArray 48) := ⟨_, rfl⟩
      have kA : Blk wA w3.heap.size 48 (stepsC [8, 8]).toArray := by rw [hwA]; exact Blk.fresh w3 _ _
      have bA : Below w3.heap.size w3 wA := by rw [hwA]; exact bal (brf w3) _
      have hgA := grid88 _ ar W H w3.heap.size wA (HV3.out.2.1.up bA) HAR.out.1 HAR.out.2.1 hW1 hH1 (by omega) (by omega) kA
      rw [HAR.out.2.2] at hgA
      have HBA := Lib.hid (bup HB3.out bA)
      have HVA := Lib.hid (And.intro (HV3.out.1.up bA) (And.intro (HV3.out.2.1.up bA) (by have := HV3.out.2.2; exact this.up bA)))
      have cA := cell_up c3 bA
      have HGA := Lib.hid hgA
      have HWA := Lib.hid hwA.symm
      clear hgA kA bA hwA HV3 HB3 c3
      go_wp2_with fail
      show Calls Try.prog 22 _ (w3.alloc (.cells (stepsC [8, 8]).toArray 48)) _
      rw [HWA.out]
      refine HGA.out.mono ?_
      rintro e w4 ⟨v4, f4, rfl, hv4, hb4⟩
      have HB4 := Lib.hid (bup HBA.out hb4)
      have HV4 := Lib.hid (And.intro (HVA.out.1.up hb4) (And.intro (HVA.out.2.1.up hb4) (And.intro (HVA.out.2.2.up hb4) hv4)))
      have c4 := cell_up cA hb4
      clear hb4 hv4 cA HVA HBA HGA HWA
      have h0a : 0 < ar.length := by rw [HAR.out.2.1]; omega
      have hva := HV4.out.2.1
      obtain ⟨bx, ox, cx, rfl, hx1, hx2, HAX⟩ := hva.at_ h0a
      obtain ⟨u1, hc1, hu1⟩ := HAX.out 0 h0a
      have hl1 : (ar.getD 0 []).length = W := by rw [List.getD, List.getElem?_eq_getElem h0a]; exact HAR.out.1 _ (List.getElem_mem h0a)
      obtain ⟨b1, o1, c1', rfl, hy1, hy2, _⟩ := row_at hu1 (by omega)
      rw [hl1] at hc1 hy1
      rw [Nat.add_zero] at hc1
      rw [HAR.out.2.1] at hx1 HV4 ⊢
      clear hu1 hl1 hva HAX h0a
      go_wp2_with fail
      refine (sameRows_yes _ v3 ar _ HV4.out.2.1 HV4.out.2.2.1 (by rw [HAR.out.2.1]; omega)).mono ?_
      rintro e w5 ⟨rfl, hb5⟩
      have HB5 := Lib.hid (bup HB4.out hb5)
      have HV5 := Lib.hid (And.intro (HV4.out.1.up hb5) (HV4.out.2.2.2.up hb5))
      have c5 := cell_up hc1 hb5
      clear hb5 HV4 HB4 hc1 c4
      go_wp2_with fail
      refine (sameRows_yes v4 _ rows _ HV5.out.2 HV5.out.1 (by rw [HX.out.1]; omega)).mono ?_
      rintro e w6 ⟨rfl, hb6⟩
      have HB6 := Lib.hid (bup HB5.out hb6)
      clear hb6 HV5 HB5
      go_wp2
      go_ret
      exact ⟨rfl, HB6.out⟩
end Go.Proofs.Ytbfkjfgjeaofpaa
