/-
  WALKS: four light modules: laws.qrLight, encoder.isWhiteHorizontal, encoder.isWhiteVertical.
-/
import Derived.Test.YtibnfgmhnmkfeaaPf2
namespace Go.Proofs.Ytibnfgmhnmkfeaa
open Go.RowKit

/-- A module is light; one outside counts as out. -/
def litB (g : Nat → Bool) (n : Nat) (out : Bool) (i : Int) : Bool := if 0 ≤ i ∧ i < (n : Int) then !(g i.toNat) else out
/-- Four modules from one on are light. -/
def lightB (g : Nat → Bool) (n : Nat) (a : Int) (out : Bool) : Bool := litB g n out a && litB g n out (a + 1) && litB g n out (a + 2) && litB g n out (a + 3)
theorem lightB_iff (g : Nat → Bool) (n : Nat) (a : Int) (out : Bool) : lightB g n a out = true ↔ ∀ i : Int, a ≤ i → i < a + 4 → litB g n out i = true := by
  unfold lightB
  simp only [Bool.and_eq_true]
  constructor
  · rintro ⟨⟨⟨h0, h1⟩, h2⟩, h3⟩ i hi1 hi2
    have : i = a ∨ i = a + 1 ∨ i = a + 2 ∨ i = a + 3 := by omega
    rcases this with rfl | rfl | rfl | rfl <;> assumption
  · intro h
    exact ⟨⟨⟨h a (by omega) (by omega), h (a + 1) (by omega) (by omega)⟩, h (a + 2) (by omega) (by omega)⟩, h (a + 3) (by omega) (by omega)⟩
theorem lightB_not {g : Nat → Bool} {n : Nat} {a i : Int} {out : Bool} (h1 : a ≤ i) (h2 : i < a + 4) (h : litB g n out i = false) : lightB g n a out = false := by
  rw [Bool.eq_false_iff]
  intro hh
  rw [(lightB_iff g n a out).1 hh i h1 h2] at h
  cases h
set_option maxRecDepth 100000 in
theorem light_any (v : Value) (l : List Bool) (n : Nat) (at_ : Int) (out : Bool) (w : World) (hv : RdT w 4 v (bv l)) (hl : l.length = n) (h0 : 0 < n) (hn : n ≤ 60) (ha : -4 ≤ at_) (hb : at_ ≤ 100) :
    Calls Try.prog 42 #[v, .int .i64 at_, .bool out] w fun e w' => e = .returned (.bool (lightB (fun j => l.getD j false) n at_ out)) ∧ w' = w := by
  obtain ⟨b, o, c, rfl, m1, m2, HC⟩ := row_at hv (by omega)
  rw [hl] at m1 HC ⊢
  clear hv hl
  go_enter Try.func42, Try.ntmps42
  go_wp2_with fail
  go_loopw [7] (fun iv wr => ∃ i : Int, at_ ≤ i ∧ i ≤ at_ + 4 ∧ iv = .int .i64 i ∧ Hid (∀ j : Int, at_ ≤ j → j < i → litB (fun j => l.getD j false) n out j = true) ∧ wr = w) (fun iv _ => (at_ + 4 - intOf iv).toNat)
  case atStart => exact ⟨at_, Int.le_refl _, by omega, rfl, Lib.hid (fun j h1 h2 => by omega), rfl⟩
  case round =>
    obtain ⟨i, hi1, hi2, rfl, HJ, rfl⟩ := hrel
    by_cases hlt : i < at_ + 4
    · have hstep : ∀ (h : litB (fun j => l.getD j false) n out i = true), ∀ j : Int, at_ ≤ j → j < i + 1 → litB (fun j => l.getD j false) n out j = true := fun h j h1 h2 => by
        by_cases hji : j < i
        · exact HJ.out j h1 hji
        · obtain rfl : j = i := by omega
          exact h
      have HST := Lib.hid hstep
      have HNO : Hid (litB (fun j => l.getD j false) n out i = false → lightB (fun j => l.getD j false) n at_ out = false) := Lib.hid (fun h => lightB_not hi1 hlt h)
      clear hstep
      by_cases hin : 0 ≤ i ∧ i < (n : Int)
      · obtain ⟨k, rfl⟩ := Int.eq_ofNat_of_zero_le hin.1
        have hk : k < n := by omega
        have r1 := HC.out k hk
        have hL : litB (fun j => l.getD j false) n out (k : Int) = !(l.getD k false) := by unfold litB; rw [if_pos hin]; rfl
        have HL := Lib.hid hL
        clear hL hin
        cases hq : l.getD k false
        · rw [hq] at r1 HL
          have HS := Lib.hid (HST.out HL.out)
          clear hq
          go_wp2
          go_roundw
          case rel => exact ⟨(k : Int) + 1, by omega, by omega, rfl, HS, trivial⟩
          case measure => simp [intOf]; omega
        · rw [hq] at r1 HL
          have HS := Lib.hid (HNO.out HL.out)
          clear hq
          go_wp2
          go_ret
          exact ⟨ret_bool HS.out.symm, rfl⟩
      · have hL : litB (fun j => l.getD j false) n out i = out := by unfold litB; rw [if_neg hin]
        have HL := Lib.hid hL
        clear hL
        by_cases hneg : i < 0
        · clear hin
          cases out
          · have HS := Lib.hid (HNO.out HL.out)
            go_wp2
            go_ret
            exact ⟨ret_bool HS.out.symm, rfl⟩
          · have HS := Lib.hid (HST.out HL.out)
            go_wp2
            go_roundw
            case rel => exact ⟨i + 1, by omega, by omega, rfl, HS, trivial⟩
            case measure => simp [intOf]; omega
        · have hge : ¬ i < (n : Int) := by omega
          have hge2 : (n : Int) ≤ i := by omega
          clear hin
          cases out
          · have HS := Lib.hid (HNO.out HL.out)
            go_wp2
            go_ret
            exact ⟨ret_bool HS.out.symm, rfl⟩
          · have HS := Lib.hid (HST.out HL.out)
            go_wp2
            go_roundw
            case rel => exact ⟨i + 1, by omega, by omega, rfl, HS, trivial⟩
            case measure => simp [intOf]; omega
    · obtain rfl : i = at_ + 4 := by omega
      go_wp2
      go_ret
      exact ⟨ret_bool ((lightB_iff _ _ _ _).2 HJ.out).symm, rfl⟩
end Go.Proofs.Ytibnfgmhnmkfeaa
