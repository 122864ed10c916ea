/-
  PROVED: laws.FnPXNegative returns true for every input that the statement speaks of, and its arguments read afterwards as before.
  No condition beyond the statement's own.
-/
import Derived.Test.YtimfaplnhlnjlaaArgs
import Derived.Test.YtimfaplnhlnjlaaPn10
namespace Go.Proofs.Ytimfaplnhlnjlaa.fnPXNegative
open Go.ChangeShapes Go.WideShapes Go.ChangeAt Go.RowKit

theorem own : ownKnob Try.prog.godebug = none := by kernel_rfl
theorem laidOut : laidOutB Try.prog = true := by kernel_rfl

set_option maxRecDepth 100000 in
theorem lifted (os : Os) (started : os.Started) (H : Type) (enc : TypeId × Value → H) :
    ReturnsInHanded {} Try.checked os 6 .any (Rows.fnPXNegativeSpec.pre6 enc Try.prog Try.f6 Rows.fnPXNegativeRow.domain false) (Rows.fnPXNegativeSpec.post enc Try.prog Try.f6 false true false false) := by
  refine returnsInHanded_of_change (C := Try.checked) own started (by kernel_rfl) Try.func6
    (ChangeSpec.witness6 (enc := enc) (C := Try.checked) false ⟨#[], #[.slice none 0 0, .int .u8 0, .int .u8 0, .int .u8 0, .int .u8 0], []⟩ 8 (by kernel_rfl) (by kernel_rfl) (by kernel_rfl) (by kernel_rfl)) ?_
  intro W base args ds gs before hval0 hW hcnd _
  have hval : ∀ (j : Nat) t v, Try.f6.params[j]? = some t → args[j]? = some v → Value.okWide Try.prog W .any base t v := hval0
  have hW' := hW
  have hlt : ∀ p ∈ before, p.block < W.heap.size := fun p hp => hW'.lt p hp
  obtain ⟨p, q, hA0, hV, rfl, hfz, hnd⟩ := hW
  have hA : DataW.TrodAll enc Try.prog W 0 (fun _ => true) true Try.f6.params.toList args.toList ds p := hA0
  rw [Try.params6] at hA hval
  obtain ⟨v0, vs0, d0, ds0, p0, q0, hargs, rfl, rfl, h0, r0⟩ := trodAll_cons hA
  obtain ⟨v1, vs1, d1, ds1, p1, q1, rfl, rfl, rfl, h1, r1⟩ := trodAll_cons r0
  obtain ⟨v2, vs2, d2, ds2, p2, q2, rfl, rfl, rfl, h2, r2⟩ := trodAll_cons r1
  obtain ⟨v3, vs3, d3, ds3, p3, q3, rfl, rfl, rfl, h3, r3⟩ := trodAll_cons r2
  obtain ⟨v4, vs4, d4, ds4, p4, q4, rfl, rfl, rfl, h4, r4⟩ := trodAll_cons r3
  obtain ⟨rfl, rfl, rfl⟩ := trodAll_nil r4
  obtain rfl : args = #[v0, v1, v2, v3, v4] := by cases args; simp_all
  obtain ⟨rfl, rfl⟩ := trodVars_none hV
  simp only [List.append_nil] at hlt
  obtain ⟨l, rd_l⟩ := rd_bools Try.underlying38 Try.underlying4 (by kernel_rfl) (okWide_slice Try.underlying38 (hval 0 38 v0 rfl rfl)) h0 (fun x hx => hlt x (by simp [hx]))
  obtain ⟨m, rfl, rfl, rfl, wf_m⟩ := open_int Try.underlying5 (hval 1 5 v1 rfl rfl) h1
  have bd_m := bounds_u8 wf_m
  obtain ⟨mN, rfl⟩ := Int.eq_ofNat_of_zero_le bd_m.1
  obtain ⟨h, rfl, rfl, rfl, wf_h⟩ := open_int Try.underlying5 (hval 2 5 v2 rfl rfl) h2
  have bd_h := bounds_u8 wf_h
  obtain ⟨hN, rfl⟩ := Int.eq_ofNat_of_zero_le bd_h.1
  obtain ⟨x, rfl, rfl, rfl, wf_x⟩ := open_int Try.underlying5 (hval 3 5 v3 rfl rfl) h3
  have bd_x := bounds_u8 wf_x
  obtain ⟨xN, rfl⟩ := Int.eq_ofNat_of_zero_le bd_x.1
  obtain ⟨y, rfl, rfl, rfl, wf_y⟩ := open_int Try.underlying5 (hval 4 5 v4 rfl rfl) h4
  have bd_y := bounds_u8 wf_y
  obtain ⟨yN, rfl⟩ := Int.eq_ofNat_of_zero_le bd_y.1
  clear hA0 hval0
  refine (neg_walk v0 l mN hN xN yN W rd_l (by omega) (by omega) (by omega) (by omega)).mono fun e W' ⟨he, hg⟩ => ?_
  subst he
  exact ⟨_, rfl, law_post laidOut (by kernel_rfl) Try.underlying4 (by kernel_rfl) rfl hW' ⟨rfl, rfl, rfl⟩ hg⟩

theorem proved : Rows.FnPXNegativeSaid :=
  OpenClaim.holds_of_wide 6 Try.f6 rfl rfl rfl rfl rfl rfl rfl ⟨rfl, rfl, rfl, rfl, rfl⟩ rfl rfl rfl rfl rfl (by kernel_rfl) Try.func6 (by kernel_rfl)
    (of_decide_eq_true (by kernel_rfl)) (by unfold Func.isWrapper; first | (rw [if_pos (by decide +kernel)]; kernel_rfl) | (rw [if_neg (by decide +kernel)]; exact ⟨rfl, rfl⟩))
    (fun os started H enc _ => lifted os started H enc)
#print axioms proved
end Go.Proofs.Ytimfaplnhlnjlaa.fnPXNegative
