/-
  WALKS: a BitMatrix of rows, and rows of a BitMatrix.
-/
import Derived.Test.YtcldipbboidjbaaRo2
import Derived.Test.YtcldipbboidjbaaBm2
namespace Go.Proofs.Ytcldipbboidjbaa
open Go.RowKit

/-- The bit of rows at column x and row y. -/
def bitOf (rows : List (List Bool)) (x y : Nat) : Bool := (rows.getD y []).getD x false
theorem MatAt.congr {w : World} {p g W H : Nat} {f f' : Nat → Nat → Bool} (h : MatAt w p g W H f) (he : ∀ x y, x < W → y < H → f x y = f' x y) : MatAt w p g W H f' := by
  obtain ⟨ws, h1, h2⟩ := h
  exact ⟨ws, h1, fun x y hx hy => (h2 x y hx hy).trans (he x y hx hy)⟩

set_option maxRecDepth 100000 in
set_option maxHeartbeats 2000000 in
/-- ParseBoolMapToBitMatrix, of rows of one length. -/
theorem parseRows_any (W H : Nat) (v : Value) (rows : List (List Bool)) (w : World) (hv : RowsT w v rows) (hH : rows.length = H) (hr : ∀ r ∈ rows, r.length = W) (hW1 : 1 ≤ W) (hH1 : 1 ≤ H) (hW4 : W ≤ 4096) (hH4 : H ≤ 4096) :
    Calls Try.prog 43 #[v] w fun e w' => ∃ p g, e = .returned (.tuple #[.pointer (some ⟨p, 0, none⟩), .nilIface]) ∧ MatAt w' p g W H (bitOf rows) ∧ w.heap.size ≤ p ∧ w.heap.size ≤ g ∧ Below w.heap.size w w' := by
  obtain ⟨b, o, cap, rfl, h1, h2, HR⟩ := hv.at_ (by omega)
  clear hv
  rw [hH] at HR h1 ⊢
  have hrl : ∀ i, i < H → (rows.getD i []).length = W := fun i hi => by
    rw [List.getD, List.getElem?_eq_getElem (by omega), Option.getD_some]; exact hr _ (List.getElem_mem _)
  have HRL := Lib.hid hrl; clear hrl hr
  have HH := Lib.hid hH; clear hH
  obtain ⟨u0, hc0, hu0⟩ := HR.out 0 (by omega)
  obtain ⟨b0, o0, c0', rfl, _, _, _⟩ := row_at hu0 (by rw [HRL.out 0 (by omega)]; omega)
  rw [HRL.out 0 (by omega), Nat.add_zero] at hc0
  clear hu0
  go_enter Try.func43, Try.ntmps43
  go_wp2_with fail
  refine (newMat_any W H _ hW1 hH1 hW4 hH4).mono ?_
  rintro e w1 ⟨p, g, rfl, hm, hp, hg, hb1⟩
  have HM := Lib.hid hm; have HB := Lib.hid hb1; clear hm hb1 hc0
  go_wp2_with fail
  go_loopw [8] (fun yv wr => ∃ (y : Nat), y ≤ H ∧ yv = .int .i64 y ∧ Hid (MatAt wr p g W H (fun a c => decide (c < y) && bitOf rows a c)) ∧ Hid (Below w.heap.size w wr)) (fun yv _ => H - (intOf yv).toNat)
  case atStart => exact ⟨0, Nat.zero_le _, rfl, Lib.hid (HM.out.congr (fun x y _ _ => by simp)), HB⟩
  case round =>
    clear HM HB
    obtain ⟨y, hy, rfl, HM, HB⟩ := hrel
    by_cases hlt : y < H
    · obtain ⟨u, hc, hu⟩ := HR.out y hlt
      obtain ⟨by_, oy, cy, rfl, hcy1, hcy2, HC⟩ := row_at hu (by rw [HRL.out y hlt]; omega)
      rw [HRL.out y hlt] at hc hcy1 HC
      have cY := cell_up hc HB.out
      clear hc hu
      go_wp2_with fail
      go_loopw [10] (fun xv wi => ∃ (x : Nat), x ≤ W ∧ xv = .int .i64 x ∧ Hid (MatAt wi p g W H (fun a c => (decide (c < y) || (decide (c = y) && decide (a < x))) && bitOf rows a c)) ∧ Hid (Below w.heap.size w wi)) (fun xv _ => W - (intOf xv).toNat)
      case atStart => exact ⟨0, Nat.zero_le _, rfl, Lib.hid (HM.out.congr (fun x y _ _ => by simp)), HB⟩
      case round =>
        rename World => wi
        clear HM HB
        obtain ⟨x, hx, rfl, HM, HB⟩ := hrel
        by_cases hxl : x < W
        · have cX := cell_up (HC.out x hxl) HB.out
          have hbit : (rows.getD y []).getD x false = bitOf rows x y := rfl
          rw [hbit] at cX
          rcases hbv : bitOf rows x y with _ | _
          · have HM2 : Hid (MatAt wi p g W H (fun a c => (decide (c < y) || (decide (c = y) && decide (a < x + 1))) && bitOf rows a c)) := Lib.hid (HM.out.congr (fun a c _ _ => by
              by_cases hac : c = y ∧ a = x
              · obtain ⟨rfl, rfl⟩ := hac; rw [hbv]; simp
              · have e : (decide (c = y) && decide (a < x)) = (decide (c = y) && decide (a < x + 1)) := by
                  rw [Bool.eq_iff_iff]; simp; omega
                rw [e]))
            rw [hbv] at cX
            clear hbv hbit HM
            go_wp2
            go_roundw
            case rel => exact ⟨x + 1, by omega, by go_num, HM2, HB⟩
            case measure => simp [intOf]; omega
          · rw [hbv] at cX
            have HBV := Lib.hid hbv; clear hbv hbit
            go_wp2_with fail
            refine (matSet_any p g W H x y _ _ HM.out hxl hlt hW4 hH4).mono ?_
            rintro e w2 ⟨i, u, rfl, rfl, hm2⟩
            have HM2 : Hid (MatAt (wi.setCell ⟨g, i, none⟩ u) p g W H (fun a c => (decide (c < y) || (decide (c = y) && decide (a < x + 1))) && bitOf rows a c)) := Lib.hid (hm2.congr (fun a c _ _ => by
              by_cases hac : c = y ∧ a = x
              · obtain ⟨rfl, rfl⟩ := hac; rw [HBV.out]; simp
              · have e : (decide (c = y) && decide (a < x)) = (decide (c = y) && decide (a < x + 1)) := by
                  rw [Bool.eq_iff_iff]; simp; omega
                have e2 : (decide (a = x) && decide (c = y)) = false := by
                  rw [Bool.eq_false_iff]; simp; omega
                rw [e, e2, Bool.or_false]))
            have HB2 := Lib.hid (HB.out.setCell (p := ⟨g, i, none⟩) hg u)
            clear hm2 HM HBV cX
            go_wp2
            go_roundw
            case rel => exact ⟨x + 1, by omega, by go_num, HM2, HB2⟩
            case measure => simp [intOf]; omega
        · obtain rfl : x = W := by omega
          have HM2 : Hid (MatAt wi p g x H (fun a c => decide (c < y + 1) && bitOf rows a c)) := Lib.hid (HM.out.congr (fun a c ha _ => by
            have e : (decide (c < y) || (decide (c = y) && decide (a < x))) = decide (c < y + 1) := by
              rw [Bool.eq_iff_iff]; simp; omega
            rw [e]))
          go_wp2
          go_roundw
          case rel => exact ⟨y + 1, by omega, by go_num, HM2, HB⟩
          case measure => simp [intOf]; omega
    · obtain rfl : y = H := by omega
      go_wp2
      go_ret2
      exact ⟨p, g, rfl, HM.out.congr (fun a c _ hc => by simp [hc]), hp, hg, HB.out⟩

/-- impl.grid. -/
theorem grid_any (W H : Nat) (v : Value) (rows : List (List Bool)) (w : World) (hv : RowsT w v rows) (hH : rows.length = H) (hr : ∀ r ∈ rows, r.length = W) (hW1 : 1 ≤ W) (hH1 : 1 ≤ H) (hW4 : W ≤ 4096) (hH4 : H ≤ 4096) :
    Calls Try.prog 24 #[v] w fun e w' => ∃ p g, e = .returned (.tuple #[.pointer (some ⟨p, 0, none⟩), .nilIface]) ∧ MatAt w' p g W H (bitOf rows) ∧ w.heap.size ≤ p ∧ w.heap.size ≤ g ∧ Below w.heap.size w w' := by
  go_enter Try.func24, Try.ntmps24
  go_wp2_with fail
  refine (parseRows_any W H v rows _ hv hH hr hW1 hH1 hW4 hH4).mono ?_
  rintro e w1 ⟨p, g, rfl, hm, hp, hg, hb1⟩
  have HM := Lib.hid hm; have HB := Lib.hid hb1; clear hm hb1 hv hr hH
  go_wp2
  go_ret2
  exact ⟨p, g, rfl, HM.out, hp, hg, HB.out⟩
end Go.Proofs.Ytcldipbboidjbaa
