/-
  PROVED: laws.FnQRShapes returns true for every input that the statement speaks of, and its arguments read afterwards as before.
  No condition beyond the statement's own.
-/
import Derived.Test.YthnhemnlapgnpaaSh9
namespace Go.Proofs.Ythnhemnlapgnpaa.fnQRShapes
open Go.ChangeShapes Go.WideShapes Go.ChangeAt Go.RowKit

theorem own : ownKnob Try.prog.godebug = none := by kernel_rfl
theorem laidOut : laidOutB Try.prog = true := by kernel_rfl

set_option maxRecDepth 100000 in
theorem lifted (os : Os) (started : os.Started) (H : Type) (enc : TypeId × Value → H) :
    ReturnsInHanded {} Try.checked os 7 .any (Rows.fnQRShapesSpec.pre6 enc Try.prog Try.f7 Rows.fnQRShapesRow.domain false) (Rows.fnQRShapesSpec.post enc Try.prog Try.f7 false true false false) := by
  refine returnsInHanded_of_change (C := Try.checked) own started (by kernel_rfl) Try.func7
    (ChangeSpec.witness6 (enc := enc) (C := Try.checked) false ⟨#[], #[.int .i64 0, .int .u8 0], []⟩ 8 (by kernel_rfl) (by kernel_rfl) (by kernel_rfl) (by kernel_rfl)) ?_
  intro W base args ds gs before hval0 hW hcnd _
  have hval : ∀ (j : Nat) t v, Try.f7.params[j]? = some t → args[j]? = some v → Value.okWide Try.prog W .any base t v := hval0
  have hW' := hW
  have hlt : ∀ p ∈ before, p.block < W.heap.size := fun p hp => hW'.lt p hp
  obtain ⟨p, q, hA0, hV, rfl, hfz, hnd⟩ := hW
  have hA : DataW.TrodAll enc Try.prog W 0 (fun _ => true) true Try.f7.params.toList args.toList ds p := hA0
  rw [Try.params7] at hA hval
  obtain ⟨v0, vs0, d0, ds0, p0, q0, hargs, rfl, rfl, h0, r0⟩ := trodAll_cons hA
  obtain ⟨v1, vs1, d1, ds1, p1, q1, rfl, rfl, rfl, h1, r1⟩ := trodAll_cons r0
  obtain ⟨rfl, rfl, rfl⟩ := trodAll_nil r1
  obtain rfl : args = #[v0, v1] := by cases args; simp_all
  obtain ⟨rfl, rfl⟩ := trodVars_none hV
  simp only [List.append_nil] at hlt
  obtain ⟨a, rfl, rfl, rfl, wf_a⟩ := open_int Try.underlying3 (hval 0 3 v0 rfl rfl) h0
  have bd_a := bounds_i64 wf_a
  obtain ⟨b, rfl, rfl, rfl, wf_b⟩ := open_int Try.underlying5 (hval 1 5 v1 rfl rfl) h1
  have bd_b := bounds_u8 wf_b
  obtain ⟨bN, rfl⟩ := Int.eq_ofNat_of_zero_le bd_b.1
  clear hA0 hval0
  refine (shapes_walk a bN W (by omega)).mono fun e W' ⟨he, hg⟩ => ?_
  subst he
  exact ⟨_, rfl, law_post laidOut (by kernel_rfl) Try.underlying4 (by kernel_rfl) rfl hW' ⟨rfl, rfl, rfl⟩ hg⟩

theorem proved : Rows.FnQRShapesSaid :=
  OpenClaim.holds_of_wide 7 Try.f7 rfl rfl rfl rfl rfl rfl rfl ⟨rfl, rfl, rfl, rfl, rfl⟩ rfl rfl rfl rfl rfl (by kernel_rfl) Try.func7 (by kernel_rfl)
    (of_decide_eq_true (by kernel_rfl)) (by unfold Func.isWrapper; first | (rw [if_pos (by decide +kernel)]; kernel_rfl) | (rw [if_neg (by decide +kernel)]; exact ⟨rfl, rfl⟩))
    (fun os started H enc _ => lifted os started H enc)
#print axioms proved
end Go.Proofs.Ythnhemnlapgnpaa.fnQRShapes
