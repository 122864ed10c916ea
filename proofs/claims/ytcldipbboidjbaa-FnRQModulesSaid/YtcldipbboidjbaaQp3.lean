/-
  WALK: spec.qrGiven.
-/
import Derived.Test.YtcldipbboidjbaaQp2
namespace Go.Proofs.Ytcldipbboidjbaa
open Go.RowKit

/-- A module belongs to a pattern. -/
def givenP (v n : Nat) (cs : List Nat) (r c : Nat) : Prop :=
  (r ≤ 8 ∧ (c ≤ 8 ∨ n ≤ c + 8)) ∨ (n ≤ r + 8 ∧ c ≤ 8) ∨ r = 6 ∨ c = 6 ∨ (7 ≤ v ∧ ((r ≤ 5 ∧ n ≤ c + 11) ∨ (c ≤ 5 ∧ n ≤ r + 11))) ∨ 0 ≤ alignI cs r c
instance (v n : Nat) (cs : List Nat) (r c : Nat) : Decidable (givenP v n cs r c) := by unfold givenP; infer_instance
def givenB (v n : Nat) (cs : List Nat) (r c : Nat) : Bool := decide (givenP v n cs r c)
set_option maxRecDepth 100000 in
set_option maxHeartbeats 4000000 in
theorem given_any (s : Value) (cs : List Nat) (v n r c B : Nat) (w : World) (hv : Rd w B s (nvl cs)) (hn : cs.length ≤ 7) (hc : ∀ x ∈ cs, x ≤ 180) (hvn : n = 17 + 4 * v) (hv1 : 1 ≤ v) (hv40 : v ≤ 40) (h1 : r < n) (h2 : c < n) :
    Calls Try.prog 39 #[.int .i64 v, s, .int .i64 r, .int .i64 c] w fun e w' => e = .returned (.bool (givenB v n cs r c)) ∧ w' = w := by
  have hDim := specDim_any v w hv40
  rw [← hvn] at hDim
  have HAl : Hid (∀ a, a = w → Calls Try.prog 75 #[s, .int .i64 r, .int .i64 c] a fun e w' => e = .returned (.int .i64 (alignI cs r c)) ∧ w' = a) := Lib.hid (fun a ha => by subst ha; exact align_any s cs r c B a hv hn hc (by omega) (by omega))
  have HAl : Hid (∀ _ : World, Calls Try.prog 75 #[s, .int .i64 r, .int .i64 c] w fun e w' => e = .returned (.int .i64 (alignI cs r c)) ∧ w' = w) := Lib.hid (fun _ => HAl.out w rfl)
  have hn21 : 21 ≤ n := by omega
  have hn177 : n ≤ 177 := by omega
  clear hvn hc hv
  go_enter Try.func39, Try.ntmps39
  go_wp2_with fail
  refine hDim.mono ?_
  rintro e w ⟨rfl, rfl⟩
  clear hDim
  by_cases r8 : r ≤ 8
  · have r8i : (r : Int) ≤ 8 := by omega
    by_cases c8 : c ≤ 8
    · have c8i : (c : Int) ≤ 8 := by omega
      have HG : Hid (givenB v n cs r c = true) := Lib.hid (decide_eq_true (by unfold givenP; omega))
      clear HAl
      go_wp2_with fail
      go_ret
      exact ⟨ret_bool HG.out.symm, rfl⟩
    have c8i : ¬ (c : Int) ≤ 8 := by omega
    by_cases cn : n ≤ c + 8
    · have cni : (n : Int) - 8 ≤ (c : Int) := by omega
      have HG : Hid (givenB v n cs r c = true) := Lib.hid (decide_eq_true (by unfold givenP; omega))
      clear HAl
      go_wp2_with fail
      go_ret
      exact ⟨ret_bool HG.out.symm, rfl⟩
    have cni : ¬ (n : Int) - 8 ≤ (c : Int) := by omega
    have rni : ¬ (n : Int) - 8 ≤ (r : Int) := by omega
    by_cases r6 : r = 6
    · subst r6
      have HG : Hid (givenB v n cs 6 c = true) := Lib.hid (decide_eq_true (by unfold givenP; omega))
      clear HAl
      go_wp2_with fail
      go_ret
      exact ⟨ret_bool HG.out.symm, rfl⟩
    have r6i : ((r : Int) == 6) = false := by simp; omega
    have c6i : ((c : Int) == 6) = false := by simp; omega
    have c5i : ¬ (c : Int) ≤ 5 := by omega
    by_cases v7 : 7 ≤ v
    · have v7i : (7 : Int) ≤ (v : Int) := by omega
      by_cases r5 : r ≤ 5
      · have r5i : (r : Int) ≤ 5 := by omega
        by_cases cm : n ≤ c + 11
        · have cmi : (n : Int) - 11 ≤ (c : Int) := by omega
          have HG : Hid (givenB v n cs r c = true) := Lib.hid (decide_eq_true (by unfold givenP; omega))
          clear HAl
          go_wp2_with fail
          go_ret
          exact ⟨ret_bool HG.out.symm, rfl⟩
        · have cmi : ¬ (n : Int) - 11 ≤ (c : Int) := by omega
          have HG : Hid (givenB v n cs r c = decide (0 ≤ alignI cs r c)) := Lib.hid (decide_eq_decide.2 (by unfold givenP; omega))
          go_wp2_with fail
          refine (HAl.out w).mono ?_
          rintro e w ⟨rfl, rfl⟩
          generalize alignI cs r c = F at *
          go_wp2_with fail
          go_ret
          exact ⟨ret_bool HG.out.symm, rfl⟩
      · have r5i : ¬ (r : Int) ≤ 5 := by omega
        have HG : Hid (givenB v n cs r c = decide (0 ≤ alignI cs r c)) := Lib.hid (decide_eq_decide.2 (by unfold givenP; omega))
        go_wp2_with fail
        refine (HAl.out w).mono ?_
        rintro e w ⟨rfl, rfl⟩
        generalize alignI cs r c = F at *
        go_wp2_with fail
        go_ret
        exact ⟨ret_bool HG.out.symm, rfl⟩
    · have v7i : ¬ (7 : Int) ≤ (v : Int) := by omega
      have HG : Hid (givenB v n cs r c = decide (0 ≤ alignI cs r c)) := Lib.hid (decide_eq_decide.2 (by unfold givenP; omega))
      go_wp2_with fail
      refine (HAl.out w).mono ?_
      rintro e w ⟨rfl, rfl⟩
      generalize alignI cs r c = F at *
      go_wp2_with fail
      go_ret
      exact ⟨ret_bool HG.out.symm, rfl⟩
  · have r8i : ¬ (r : Int) ≤ 8 := by omega
    have r5i : ¬ (r : Int) ≤ 5 := by omega
    have r6i : ((r : Int) == 6) = false := by simp; omega
    by_cases rn : n ≤ r + 8
    · have rni : (n : Int) - 8 ≤ (r : Int) := by omega
      by_cases c8 : c ≤ 8
      · have c8i : (c : Int) ≤ 8 := by omega
        have HG : Hid (givenB v n cs r c = true) := Lib.hid (decide_eq_true (by unfold givenP; omega))
        clear HAl
        go_wp2_with fail
        go_ret
        exact ⟨ret_bool HG.out.symm, rfl⟩
      · have c8i : ¬ (c : Int) ≤ 8 := by omega
        have c5i : ¬ (c : Int) ≤ 5 := by omega
        have c6i : ((c : Int) == 6) = false := by simp; omega
        by_cases v7 : 7 ≤ v
        · have v7i : (7 : Int) ≤ (v : Int) := by omega
          have HG : Hid (givenB v n cs r c = decide (0 ≤ alignI cs r c)) := Lib.hid (decide_eq_decide.2 (by unfold givenP; omega))
          go_wp2_with fail
          refine (HAl.out w).mono ?_
          rintro e w ⟨rfl, rfl⟩
          generalize alignI cs r c = F at *
          go_wp2_with fail
          go_ret
          exact ⟨ret_bool HG.out.symm, rfl⟩
        · have v7i : ¬ (7 : Int) ≤ (v : Int) := by omega
          have HG : Hid (givenB v n cs r c = decide (0 ≤ alignI cs r c)) := Lib.hid (decide_eq_decide.2 (by unfold givenP; omega))
          go_wp2_with fail
          refine (HAl.out w).mono ?_
          rintro e w ⟨rfl, rfl⟩
          generalize alignI cs r c = F at *
          go_wp2_with fail
          go_ret
          exact ⟨ret_bool HG.out.symm, rfl⟩
    · have rni : ¬ (n : Int) - 8 ≤ (r : Int) := by omega
      by_cases c6 : c = 6
      · subst c6
        have HG : Hid (givenB v n cs r 6 = true) := Lib.hid (decide_eq_true (by unfold givenP; omega))
        clear HAl
        go_wp2_with fail
        go_ret
        exact ⟨ret_bool HG.out.symm, rfl⟩
      have c6i : ((c : Int) == 6) = false := by simp; omega
      by_cases v7 : 7 ≤ v
      · have v7i : (7 : Int) ≤ (v : Int) := by omega
        by_cases c5 : c ≤ 5
        · have c5i : (c : Int) ≤ 5 := by omega
          by_cases rm : n ≤ r + 11
          · have rmi : (n : Int) - 11 ≤ (r : Int) := by omega
            have HG : Hid (givenB v n cs r c = true) := Lib.hid (decide_eq_true (by unfold givenP; omega))
            clear HAl
            go_wp2_with fail
            go_ret
            exact ⟨ret_bool HG.out.symm, rfl⟩
          · have rmi : ¬ (n : Int) - 11 ≤ (r : Int) := by omega
            have HG : Hid (givenB v n cs r c = decide (0 ≤ alignI cs r c)) := Lib.hid (decide_eq_decide.2 (by unfold givenP; omega))
            go_wp2_with fail
            refine (HAl.out w).mono ?_
            rintro e w ⟨rfl, rfl⟩
            generalize alignI cs r c = F at *
            go_wp2_with fail
            go_ret
            exact ⟨ret_bool HG.out.symm, rfl⟩
        · have c5i : ¬ (c : Int) ≤ 5 := by omega
          have HG : Hid (givenB v n cs r c = decide (0 ≤ alignI cs r c)) := Lib.hid (decide_eq_decide.2 (by unfold givenP; omega))
          go_wp2_with fail
          refine (HAl.out w).mono ?_
          rintro e w ⟨rfl, rfl⟩
          generalize alignI cs r c = F at *
          go_wp2_with fail
          go_ret
          exact ⟨ret_bool HG.out.symm, rfl⟩
      · have v7i : ¬ (7 : Int) ≤ (v : Int) := by omega
        have HG : Hid (givenB v n cs r c = decide (0 ≤ alignI cs r c)) := Lib.hid (decide_eq_decide.2 (by unfold givenP; omega))
        go_wp2_with fail
        refine (HAl.out w).mono ?_
        rintro e w ⟨rfl, rfl⟩
        generalize alignI cs r c = F at *
        go_wp2_with fail
        go_ret
        exact ⟨ret_bool HG.out.symm, rfl⟩
end Go.Proofs.Ytcldipbboidjbaa
