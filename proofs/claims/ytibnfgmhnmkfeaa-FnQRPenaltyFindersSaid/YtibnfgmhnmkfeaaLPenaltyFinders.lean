/-
  PROVED: laws.FnQRPenaltyFinders returns true for every input that the statement speaks of, and its arguments read afterwards as before.
  No condition beyond the statement's own.
-/
import Derived.Test.YtibnfgmhnmkfeaaArgs
import Derived.Test.YtibnfgmhnmkfeaaRm
import Derived.Test.YtibnfgmhnmkfeaaPf12
namespace Go.Proofs.Ytibnfgmhnmkfeaa.fnQRPenaltyFinders
open Go.ChangeShapes Go.WideShapes Go.ChangeAt Go.RowKit

theorem own : ownKnob Try.prog.godebug = none := by kernel_rfl
theorem laidOut : laidOutB Try.prog = true := by kernel_rfl

set_option maxRecDepth 100000 in
theorem lifted (os : Os) (started : os.Started) (H : Type) (enc : TypeId × Value → H) :
    ReturnsInHanded {} Try.checked os 3 .any (Rows.fnQRPenaltyFindersSpec.pre6 enc Try.prog Try.f3 Rows.fnQRPenaltyFindersRow.domain false) (Rows.fnQRPenaltyFindersSpec.post enc Try.prog Try.f3 false true false false) := by
  refine returnsInHanded_of_change (C := Try.checked) own started (by kernel_rfl) Try.func3
    (ChangeSpec.witness6 (enc := enc) (C := Try.checked) false ⟨#[], #[.slice none 0 0], []⟩ 8 (by kernel_rfl) (by kernel_rfl) (by kernel_rfl) (by kernel_rfl)) ?_
  intro W base args ds gs before hval0 hW hcnd _
  have hval : ∀ (j : Nat) t v, Try.f3.params[j]? = some t → args[j]? = some v → Value.okWide Try.prog W .any base t v := hval0
  have hW' := hW
  have hlt : ∀ p ∈ before, p.block < W.heap.size := fun p hp => hW'.lt p hp
  obtain ⟨p, q, hA0, hV, rfl, hfz, hnd⟩ := hW
  have hA : DataW.TrodAll enc Try.prog W 0 (fun _ => true) true Try.f3.params.toList args.toList ds p := hA0
  rw [Try.params3] at hA hval
  obtain ⟨v0, vs0, d0, ds0, p0, q0, hargs, rfl, rfl, h0, r0⟩ := trodAll_cons hA
  obtain ⟨rfl, rfl, rfl⟩ := trodAll_nil r0
  obtain rfl : args = #[v0] := by cases args; simp_all
  obtain ⟨rfl, rfl⟩ := trodVars_none hV
  simp only [List.append_nil] at hlt
  obtain ⟨x, rd_x⟩ := rows_bools Try.underlying22 Try.underlying36 Try.underlying4 (by kernel_rfl) (by kernel_rfl) (okWide_slice Try.underlying22 (hval 0 22 v0 rfl rfl)) h0
  clear hA0 hval0
  refine (penaltyFinders_walk v0 x W rd_x).mono fun e W' ⟨he, hg⟩ => ?_
  subst he
  exact ⟨_, rfl, law_post laidOut (by kernel_rfl) Try.underlying4 (by kernel_rfl) rfl hW' ⟨rfl, rfl, rfl⟩ hg⟩

theorem proved : Rows.FnQRPenaltyFindersSaid :=
  OpenClaim.holds_of_wide 3 Try.f3 rfl rfl rfl rfl rfl rfl rfl ⟨rfl, rfl, rfl, rfl, rfl⟩ rfl rfl rfl rfl rfl (by kernel_rfl) Try.func3 (by kernel_rfl)
    (of_decide_eq_true (by kernel_rfl)) (by unfold Func.isWrapper; first | (rw [if_pos (by decide +kernel)]; kernel_rfl) | (rw [if_neg (by decide +kernel)]; exact ⟨rfl, rfl⟩))
    (fun os started H enc _ => lifted os started H enc)
#print axioms proved
end Go.Proofs.Ytibnfgmhnmkfeaa.fnQRPenaltyFinders
