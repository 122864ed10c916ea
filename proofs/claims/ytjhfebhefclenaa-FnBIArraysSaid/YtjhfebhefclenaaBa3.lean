/-
  WALK: impl.array: a BitArray of bits.
-/
import Derived.Test.YtjhfebhefclenaaBa2
namespace Go.Proofs.Ytjhfebhefclenaa
open Go.RowKit

/-- impl.array. -/
theorem array_any (v : Value) (l : List Bool) (w : World) (hv : Rd w w.heap.size v (bv l)) (hs : l.length ≤ 2147483647) :
    Calls Try.prog 12 #[v] w fun e w' => ∃ p g, e = .returned (.pointer (some ⟨p, 0, none⟩)) ∧ BitAt w' p g (wordsOf l) l.length ∧ w.heap.size ≤ p ∧ w.heap.size ≤ g ∧ Below w.heap.size w w' := by
  obtain ⟨A, cap, rfl, h1, h2, h3⟩ := hv
  rw [bv_len] at *
  unfold maxLen at h2
  have HA := Lib.hid h3; clear h3
  go_enter Try.func12, Try.ntmps12
  go_wp2_with fail
  refine (newArray_any l.length w hs).mono ?_
  rintro e w1 ⟨p, g, rfl, hX0, hp, hg, hB0⟩
  have HX := Lib.hid hX0; clear hX0
  have HB := Lib.hid hB0; clear hB0
  go_wp2
  go_loopw [11] (fun i wr => ∃ k : Nat, k ≤ l.length ∧ i = .int .i64 k ∧ BitAt wr p g (setBits ((l.length + 31) / 32) l k) l.length ∧ Below w.heap.size w wr) (fun i _ => l.length - (intOf i).toNat)
  case atStart => exact ⟨0, Nat.zero_le _, rfl, HX.out, HB.out⟩
  case round =>
    obtain ⟨k, hk, rfl, hX, hB⟩ := hrel
    by_cases hlt : k < l.length
    · obtain ⟨b, o, rfl, hb, hc⟩ := HA.out (by omega)
      have c1 := (below_cells hB b _ hb).trans (hc k _ (bv_at l k hlt))
      have hg0 : l.getD k false = l[k] := by rw [List.getD, List.getElem?_eq_getElem hlt]; rfl
      have hst : setBits ((l.length + 31) / 32) l (k + 1) = if l[k] = true then setW (setBits ((l.length + 31) / 32) l k) k else setBits ((l.length + 31) / 32) l k := by rw [← hg0]; rfl
      have HS := Lib.hid hst
      clear hc hst hg0
      generalize l[k] = x at *
      cases x
      · go_wp2
        go_roundw
        case rel => exact ⟨k + 1, by omega, by go_num, by rw [HS.out]; exact hX, hB⟩
        case measure => simp [intOf]; omega
      · go_wp2_with fail
        refine (set_any p g _ l.length k _ hX hlt hs).mono ?_
        rintro e w2 ⟨rfl, hX2, rfl⟩
        go_wp2
        go_roundw
        case rel => exact ⟨k + 1, by omega, by go_num, by rw [HS.out]; exact hX2, hB.setCell (p := ⟨g, k / 32, none⟩) hg _⟩
        case measure => simp [intOf]; omega
    · go_wp2
      go_ret
      obtain rfl : k = l.length := by omega
      exact ⟨p, g, rfl, hX, hp, hg, hB⟩
end Go.Proofs.Ytjhfebhefclenaa
