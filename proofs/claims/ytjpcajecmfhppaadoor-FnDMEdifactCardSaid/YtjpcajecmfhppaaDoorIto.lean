/-
  WALKS: strconv.Itoa of a number below 100.
-/
import Derived.Test.YtjpcajecmfhppaaDoorBase
import Derived.Lib.ItoaNum
import Derived.Lib.Strings
import Derived.Lib.ItoaWalk
import Derived.Test.YtjpcajecmfhppaaDoorDc1
import Derived.Test.YtjpcajecmfhppaaDoorSx
namespace Go.Proofs.YtjpcajecmfhppaaDoor
open Go.RowKit

theorem ito_ba (x : ByteArray) (l : List UInt8) (h : x.data.toList = l) : x = ⟨l.toArray⟩ := by
  subst h
  cases x
  simp
set_option maxHeartbeats 2000000 in
set_option maxRecDepth 100000 in
theorem small_any (i : Nat) (h : i < 100) (w : World) : Calls Tryd.prog 61 #[.int .i64 i] w fun e w' => e = .returned (.string ⟨(Lib.decDigits i).toArray⟩) ∧ w' = w := by
  go_enter Tryd.func61, Tryd.ntmps61
  go_name_bytes_deep 45 SM hSM
  have eSM : SM = Lib.smalls := by rw [← hSM]; decide +kernel
  subst eSM
  clear hSM
  go_name_bytes_deep 30 DG hDG
  have eDG : DG = Lib.digits36 := by rw [← hDG]; decide +kernel
  subst eDG
  clear hDG
  by_cases h10 : i < 10
  · have hsl : ∀ w, (Instr.slice 9 (.string Lib.digits36) (some (.int .i64 (i : Int))) (some (.int .i64 ((i : Int) + 1))) none).run Tryd.prog w = .ok (.string (Lib.digits36.extract i (i + 1))) w := fun w => by
      rw [run_slice_string w 9 Lib.digits36 .i64 .i64 _ _ Tryd.underlying9 (by omega) (by omega) (by rw [Lib.digits36_size]; omega), show ((i : Int)).toNat = i by omega, show ((i : Int) + 1).toNat = i + 1 by omega]
    go_wp2
    go_ret
    refine ⟨?_, rfl⟩
    show Ending.returned (Value.string (Lib.digits36.extract i (i + 1))) = _
    rw [ito_ba (Lib.digits36.extract i (i + 1)) (Lib.decDigits i) (by rw [Lib.extract_data]; exact Lib.digits36_piece h10)]
  · have hsl : ∀ w, (Instr.slice 9 (.string Lib.smalls) (some (.int .i64 ((i : Int) * 2))) (some (.int .i64 ((i : Int) * 2 + 2))) none).run Tryd.prog w = .ok (.string (Lib.smalls.extract (i * 2) (i * 2 + 2))) w := fun w => by
      rw [run_slice_string w 9 Lib.smalls .i64 .i64 _ _ Tryd.underlying9 (by omega) (by omega) (by rw [Lib.smalls_size]; omega), show ((i : Int) * 2).toNat = i * 2 by omega, show ((i : Int) * 2 + 2).toNat = i * 2 + 2 by omega]
    go_wp2
    go_ret
    refine ⟨?_, rfl⟩
    show Ending.returned (Value.string (Lib.smalls.extract (i * 2) (i * 2 + 2))) = _
    rw [ito_ba (Lib.smalls.extract (i * 2) (i * 2 + 2)) (Lib.decDigits i) (by rw [Lib.extract_data]; exact Lib.smalls_piece h10 h)]
theorem decD_lo : ∀ d, d < 10 → Lib.decDigits d = [UInt8.ofNat (48 + d)] := by decide +kernel
theorem decD_hi : ∀ d, d < 100 → 10 ≤ d → Lib.decDigits d = [UInt8.ofNat (48 + d / 10), UInt8.ofNat (48 + d % 10)] := by decide +kernel
/-- What is appended behind the zero of a number below ten. -/
def itoL (d : Nat) : List UInt8 := if d < 10 then [UInt8.ofNat (48 + d)] else dg2 d
theorem itoL_lo (d : Nat) (h : d < 10) : [UInt8.ofNat 48] ++ itoL d = dg2 d := by
  unfold itoL dg2
  rw [if_pos h, show d / 10 = 0 by omega, show d % 10 = d by omega]; rfl
theorem itoL_hi (d : Nat) (h : ¬ d < 10) : itoL d = dg2 d := by
  unfold itoL; rw [if_neg h]
theorem itoL_len (d : Nat) : (itoL d).length ≤ 2 := by unfold itoL dg2; split <;> simp
set_option maxRecDepth 100000 in
theorem itoa_any (i : Nat) (h : i < 100) (w : World) : Calls Tryd.prog 45 #[.int .i64 i] w fun e w' => e = .returned (.string (ofL (itoL i))) ∧ w' = w := by
  have hd : (⟨(Lib.decDigits i).toArray⟩ : ByteArray) = ofL (itoL i) := by
    unfold ofL itoL
    split
    · rw [decD_lo i (by assumption)]
    · rw [decD_hi i h (by omega)]; rfl
  have h1 : ∀ w', Calls Tryd.prog 60 #[.int .i64 i, .int .i64 10] w' fun e w'' => e = .returned (.string (ofL (itoL i))) ∧ w'' = w' := fun w' => by
    go_enter Tryd.func60, Tryd.ntmps60
    go_wp2_with fail
    refine (small_any i h _).mono ?_
    rintro e w' ⟨rfl, rfl⟩
    rw [hd]
    go_wp2
    go_ret
    exact ⟨rfl, rfl⟩
  have h2 : ∀ w', Calls Tryd.prog 59 #[.int .i64 i] w' fun e w'' => e = .returned (.string (ofL (itoL i))) ∧ w'' = w' := fun w' => by
    go_enter Tryd.func59, Tryd.ntmps59
    go_wp2_with fail
    refine (h1 _).mono ?_
    rintro e w' ⟨rfl, rfl⟩
    go_wp2
    go_ret
    exact ⟨rfl, rfl⟩
  go_enter Tryd.func45, Tryd.ntmps45
  go_wp2_with fail
  refine (h2 _).mono ?_
  rintro e w' ⟨rfl, rfl⟩
  go_wp2
  go_ret
  exact ⟨rfl, rfl⟩
end Go.Proofs.YtjpcajecmfhppaaDoor
