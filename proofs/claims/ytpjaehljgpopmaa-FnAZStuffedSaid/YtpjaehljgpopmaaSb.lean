/-
  WALKS: spec.BISameBits.
-/
import Derived.Test.YtpjaehljgpopmaaRo0
namespace Go.Proofs.Ytpjaehljgpopmaa
open Go.RowKit
set_option maxRecDepth 100000 in
/-- spec.BISameBits, of the same bits. -/
theorem sameBits_yes (a b : Value) (l : List Bool) (w : World) (ha : Rd w w.heap.size a (bv l)) (hb : Rd w w.heap.size b (bv l)) :
    Calls Try.prog 9 #[a, b] w fun e w' => e = .returned (.bool true) ∧ Below w.heap.size w w' := by
  obtain ⟨A, ca, rfl, ha1, ha2, ha3⟩ := ha
  obtain ⟨B, cb, rfl, hb1, hb2, hb3⟩ := hb
  simp only [bv_len] at *
  unfold maxLen at ha2 hb2
  have HA := Lib.hid ha3; clear ha3
  have HB := Lib.hid hb3; clear hb3
  go_enter Try.func9, Try.ntmps9
  go_wp2
  go_loopw [5] (fun iv wr => ∃ i : Nat, i ≤ l.length ∧ iv = .int .i64 i ∧ Hid (Below w.heap.size w wr)) (fun iv _ => l.length - (intOf iv).toNat)
  case atStart => exact ⟨0, Nat.zero_le _, rfl, Lib.hid (brf w)⟩
  case round =>
    obtain ⟨i, hi, rfl, HW⟩ := hrel
    by_cases hlt : i < l.length
    · obtain ⟨ba, oa, rfl, _, hca⟩ := HA.out (by omega)
      obtain ⟨bb, ob, rfl, _, hcb⟩ := HB.out (by omega)
      have c1 := cell_up (hca i _ (bv_at l i hlt)) HW.out
      have c2 := cell_up (hcb i _ (bv_at l i hlt)) HW.out
      clear hca hcb
      generalize l[i] = x at *
      go_wp2
      go_quiet (fail)
      have HW2 := Lib.hid (bdn HW.out nq)
      go_wp2
      go_roundw
      case rel => exact ⟨i + 1, by omega, by go_num, HW2⟩
      case measure => simp [intOf]; omega
    · go_wp2
      go_ret
      exact ⟨rfl, HW.out⟩

end Go.Proofs.Ytpjaehljgpopmaa
