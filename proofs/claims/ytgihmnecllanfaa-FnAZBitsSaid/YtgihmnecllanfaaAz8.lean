/-
  WALKS: decoder.ExtractBits, impl.AZBits.
-/
import Derived.Test.YtgihmnecllanfaaAz5
import Derived.Test.YtgihmnecllanfaaAz6
namespace Go.Proofs.Ytgihmnecllanfaa
open Go.RowKit

theorem newDet_any (p : Nat) (w : World) : Calls Try.prog 50 #[.pointer (some ⟨p, 0, none⟩), .slice none 0 0] w fun e w' => ∃ q, e = .returned (.pointer (some ⟨q, 0, none⟩)) ∧ Below w.heap.size w w' := by
  have hB := fun o => bal (brf w) o
  have HB := Lib.hid hB; clear hB
  go_enter Try.func50, Try.ntmps50
  go_wp2
  go_ret
  exact ⟨_, rfl, HB.out _⟩
theorem newAz_any (p L : Nat) (c : Bool) (w : World) : Calls Try.prog 40 #[.pointer (some ⟨p, 0, none⟩), .slice none 0 0, .bool c, .int .i64 0, .int .i64 (L : Nat)] w fun e w' =>
    ∃ r, e = .returned (.pointer (some ⟨r, 0, none⟩)) ∧ w'.cell? ⟨r, 1, none⟩ = some (.bool c) ∧ w'.cell? ⟨r, 3, none⟩ = some (.int .i64 (L : Nat)) ∧ Below w.heap.size w w' := by
  go_enter Try.func40, Try.ntmps40
  go_wp2_with fail
  refine (newDet_any p _).mono ?_
  rintro e w1 ⟨q, rfl, hb⟩
  have HB := Lib.hid hb; clear hb
  go_wp2
  go_ret
  exact ⟨_, rfl, by rw [(Blk.fresh w1 _ _).cell]; rfl, by rw [(Blk.fresh w1 _ _).cell]; rfl, bal HB.out _⟩
theorem extract_any (c : Bool) (L p gm dd rr : Nat) (f : Nat → Nat → Bool) (w : World) (hm : MatAt w p gm (wholeN c L) (wholeN c L) f) (hd : w.cell? ⟨dd, 0, none⟩ = some (.pointer (some ⟨rr, 0, none⟩)))
    (h1 : w.cell? ⟨rr, 1, none⟩ = some (.bool c)) (h3 : w.cell? ⟨rr, 3, none⟩ = some (.int .i64 (L : Nat))) (hL1 : 1 ≤ L) (hL : L ≤ 32) :
    Calls Try.prog 41 #[.pointer (some ⟨dd, 0, none⟩), .pointer (some ⟨p, 0, none⟩)] w fun e w' => ∃ v', e = .returned v' ∧ Rd w' w'.heap.size v' (bv (takU c L f L)) ∧ Below w.heap.size w w' := by
  cases c
  · exact extract_full L p gm dd rr f w hm hd h1 h3 hL1 hL
  · exact extract_compact L p gm dd rr f w hm hd h1 h3 hL1 hL
theorem door_any (c : Bool) (L p gm : Nat) (f : Nat → Nat → Bool) (w : World) (hm : MatAt w p gm (wholeN c L) (wholeN c L) f) (hL1 : 1 ≤ L) (hL : L ≤ 32) :
    Calls Try.prog 28 #[.pointer (some ⟨p, 0, none⟩), .bool c, .int .i64 (L : Nat)] w fun e w' => ∃ v', e = .returned v' ∧ Rd w' w'.heap.size v' (bv (takU c L f L)) ∧ Below w.heap.size w w' := by
  have HM := Lib.hid hm; clear hm
  go_enter Try.func28, Try.ntmps28
  go_wp2_with fail
  refine (newAz_any p L c _).mono ?_
  rintro e w1 ⟨r, rfl, h1, h3, hb⟩
  have HB := Lib.hid hb; clear hb
  have H1 := Lib.hid h1; have H3 := Lib.hid h3; clear h1 h3
  go_wp2_with fail
  refine (extract_any c L p gm _ r f _ ((HM.out.up HB.out).up (bal (brf w1) _)) (by rw [(Blk.fresh w1 _ _).cell]; rfl) (cell_up H1.out (bal (brf w1) _)) (cell_up H3.out (bal (brf w1) _)) hL1 hL).mono ?_
  rintro e w2 ⟨v', rfl, hr, hb2⟩
  have HR := Lib.hid hr
  have HB2 := Lib.hid (bup HB.out (bup (bal (brf w1) _) hb2)); clear hr hb2
  go_wp2
  go_ret
  exact ⟨_, rfl, HR.out, HB2.out⟩
set_option maxRecDepth 100000 in
theorem azBits_any (c : Bool) (L : Nat) (v : Value) (rows : List (List Bool)) (w : World) (hv : RowsT w v rows) (hH : rows.length = wholeN c L) (hr : ∀ r ∈ rows, r.length = wholeN c L) (hL1 : 1 ≤ L) (hL : L ≤ 32) :
    Calls Try.prog 11 #[v, .bool c, .int .i64 (L : Nat)] w fun e w' => ∃ v', e = .returned v' ∧ Rd w' w'.heap.size v' (bv (takU c L (bitOf rows) L)) ∧ Below w.heap.size w w' := by
  have hwl := wholeN_le c L hL
  have HG := Lib.hid (grid_any (wholeN c L) (wholeN c L) v rows w hv hH hr (by omega) (by omega) (by omega) (by omega))
  obtain ⟨b, o, cap, rfl, _, _, _⟩ := hv.at_ (by omega)
  clear hH hr hv
  go_enter Try.func11, Try.ntmps11
  go_wp2_with fail
  refine HG.out.mono ?_
  rintro e w1 ⟨p, gm, rfl, hm, _, _, hb⟩
  have HB := Lib.hid hb; have HM := Lib.hid hm; clear hb hm
  go_wp2_with fail
  refine (door_any c L p gm _ _ HM.out hL1 hL).mono ?_
  rintro e w2 ⟨v', rfl, hr, hb2⟩
  have HR := Lib.hid hr
  have HB2 := Lib.hid (bup HB.out hb2); clear hr hb2
  go_wp2
  go_ret
  exact ⟨_, rfl, HR.out, HB2.out⟩
end Go.Proofs.Ytgihmnecllanfaa
