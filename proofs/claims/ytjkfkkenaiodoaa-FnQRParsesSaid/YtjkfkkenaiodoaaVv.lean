/-
  WALKS: versionOf, Version_GetVersionForNumber.
-/
import Derived.Test.YtjkfkkenaiodoaaVa1
import Derived.Test.YtjkfkkenaiodoaaVa2
import Derived.Test.YtjkfkkenaiodoaaVa3
import Derived.Test.YtjkfkkenaiodoaaVa4
import Derived.Test.YtjkfkkenaiodoaaErr
namespace Go.Proofs.Ytjkfkkenaiodoaa
open Go.RowKit

theorem versionOf_any (v : Nat) (w : World) (h1 : 1 ≤ v) (h2 : v ≤ 40) : Calls Try.prog 22 #[.int .i64 v] w fun e w' => ∃ p, e = .returned (.pointer (some ⟨p, 0, none⟩)) ∧ VerAt w' p v ∧ Below w.heap.size w w' := by
  have h : v = 1 ∨ v = 2 ∨ v = 3 ∨ v = 4 ∨ v = 5 ∨ v = 6 ∨ v = 7 ∨ v = 8 ∨ v = 9 ∨ v = 10 ∨ v = 11 ∨ v = 12 ∨ v = 13 ∨ v = 14 ∨ v = 15 ∨ v = 16 ∨ v = 17 ∨ v = 18 ∨ v = 19 ∨ v = 20 ∨ v = 21 ∨ v = 22 ∨ v = 23 ∨ v = 24 ∨ v = 25 ∨ v = 26 ∨ v = 27 ∨ v = 28 ∨ v = 29 ∨ v = 30 ∨ v = 31 ∨ v = 32 ∨ v = 33 ∨ v = 34 ∨ v = 35 ∨ v = 36 ∨ v = 37 ∨ v = 38 ∨ v = 39 ∨ v = 40 := by omega
  rcases h with h | h | h | h | h | h | h | h | h | h | h | h | h | h | h | h | h | h | h | h | h | h | h | h | h | h | h | h | h | h | h | h | h | h | h | h | h | h | h | h
  · subst h; exact ver_1 w
  · subst h; exact ver_2 w
  · subst h; exact ver_3 w
  · subst h; exact ver_4 w
  · subst h; exact ver_5 w
  · subst h; exact ver_6 w
  · subst h; exact ver_7 w
  · subst h; exact ver_8 w
  · subst h; exact ver_9 w
  · subst h; exact ver_10 w
  · subst h; exact ver_11 w
  · subst h; exact ver_12 w
  · subst h; exact ver_13 w
  · subst h; exact ver_14 w
  · subst h; exact ver_15 w
  · subst h; exact ver_16 w
  · subst h; exact ver_17 w
  · subst h; exact ver_18 w
  · subst h; exact ver_19 w
  · subst h; exact ver_20 w
  · subst h; exact ver_21 w
  · subst h; exact ver_22 w
  · subst h; exact ver_23 w
  · subst h; exact ver_24 w
  · subst h; exact ver_25 w
  · subst h; exact ver_26 w
  · subst h; exact ver_27 w
  · subst h; exact ver_28 w
  · subst h; exact ver_29 w
  · subst h; exact ver_30 w
  · subst h; exact ver_31 w
  · subst h; exact ver_32 w
  · subst h; exact ver_33 w
  · subst h; exact ver_34 w
  · subst h; exact ver_35 w
  · subst h; exact ver_36 w
  · subst h; exact ver_37 w
  · subst h; exact ver_38 w
  · subst h; exact ver_39 w
  · subst h; exact ver_40 w
theorem getVersion_yes (v : Nat) (w : World) (h1 : 1 ≤ v) (h2 : v ≤ 40) : Calls Try.prog 15 #[.int .i64 v] w fun e w' => ∃ p, e = .returned (.tuple #[.pointer (some ⟨p, 0, none⟩), .nilIface]) ∧ VerAt w' p v ∧ Below w.heap.size w w' := by
  have b1 : decide ((v : Int) < 1) = false := by simp; omega
  have b2 : decide ((40 : Int) < (v : Int)) = false := by simp; omega
  go_enter Try.func15, Try.ntmps15
  go_wp2_with fail
  refine (versionOf_any v w h1 h2).mono ?_
  rintro e w1 ⟨p, rfl, hv, hb⟩
  have HV := Lib.hid (And.intro hv hb); clear hv hb
  go_wp2
  go_ret2
  exact ⟨p, rfl, HV.out.1, HV.out.2⟩
theorem getVersion_no (v : Int) (w : World) (h : v < 1 ∨ 40 < v) : Calls Try.prog 15 #[.int .i64 v] w fun e w' => ∃ b, e = .returned (.tuple #[.pointer none, .iface 93 (.pointer (some ⟨b, 0, none⟩))]) ∧ Below w.heap.size w w' := by
  rcases h with h | h
  · have b1 : decide (v < 1) = true := by simp; omega
    go_enter Try.func15, Try.ntmps15
    go_wp2_with fail
    refine (errNew_any _ _).mono ?_
    rintro e w1 ⟨b, rfl, hb⟩
    go_wp2
    go_ret2
    exact ⟨b, rfl, hb⟩
  · have b1 : decide (v < 1) = false := by simp; omega
    have b2 : decide (40 < v) = true := by simp; omega
    go_enter Try.func15, Try.ntmps15
    go_wp2_with fail
    refine (errNew_any _ _).mono ?_
    rintro e w1 ⟨b, rfl, hb⟩
    go_wp2
    go_ret2
    exact ⟨b, rfl, hb⟩
theorem verNumber_any (p v : Nat) (w : World) (h : VerAt w p v) : Calls Try.prog 50 #[.pointer (some ⟨p, 0, none⟩)] w fun e w' => e = .returned (.int .i64 v) ∧ w' = w := by
  obtain ⟨cs, vc, ge, g0, g1, g2, g3, e0, e1, e2, e3, l0, l1, l2, l3, h⟩ := h
  have c0 : w.cell? ⟨p, 0, none⟩ = some (.int .i64 v) := by rw [h.head.cell]; rfl
  clear h
  go_enter Try.func50, Try.ntmps50
  go_wp2
  go_ret
  exact ⟨rfl, rfl⟩
end Go.Proofs.Ytjkfkkenaiodoaa
