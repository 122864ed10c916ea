/-
  PROVED: laws.FnAZMode returns true for every input that the statement speaks of, and its arguments read afterwards as before.
  No condition beyond the statement's own.
-/
import Derived.Test.YtibdeekgcbmofaaKh4
namespace Go.Proofs.Ytibdeekgcbmofaa.fnAZMode
open Go.ChangeShapes Go.WideShapes Go.ChangeAt Go.RowKit

theorem own : ownKnob Try.prog.godebug = none := by kernel_rfl
theorem laidOut : laidOutB Try.prog = true := by kernel_rfl

set_option maxRecDepth 100000 in
theorem lifted (os : Os) (started : os.Started) (H : Type) (enc : TypeId × Value → H) :
    ReturnsInHanded {} Try.checked os 3 .any (Rows.fnAZModeSpec.pre6 enc Try.prog Try.f3 Rows.fnAZModeRow.domain false) (Rows.fnAZModeSpec.post enc Try.prog Try.f3 false true false false) := by
  refine returnsInHanded_of_change (C := Try.checked) own started (by kernel_rfl) Try.func3
    (ChangeSpec.witness6 (enc := enc) (C := Try.checked) false ⟨#[], #[.int .u16 0, .bool false, .slice none 0 0, .slice none 0 0], []⟩ 8 (by kernel_rfl) (by kernel_rfl) (by kernel_rfl) (by kernel_rfl)) ?_
  intro W base args ds gs before hval0 hW hcnd _
  have hval : ∀ (j : Nat) t v, Try.f3.params[j]? = some t → args[j]? = some v → Value.okWide Try.prog W .any base t v := hval0
  have hW' := hW
  have hlt : ∀ p ∈ before, p.block < W.heap.size := fun p hp => hW'.lt p hp
  obtain ⟨p, q, hA0, hV, rfl, hfz, hnd⟩ := hW
  have hA : DataW.TrodAll enc Try.prog W 0 (fun _ => true) true Try.f3.params.toList args.toList ds p := hA0
  rw [Try.params3] at hA hval
  obtain ⟨v0, vs0, d0, ds0, p0, q0, hargs, rfl, rfl, h0, r0⟩ := trodAll_cons hA
  obtain ⟨v1, vs1, d1, ds1, p1, q1, rfl, rfl, rfl, h1, r1⟩ := trodAll_cons r0
  obtain ⟨v2, vs2, d2, ds2, p2, q2, rfl, rfl, rfl, h2, r2⟩ := trodAll_cons r1
  obtain ⟨v3, vs3, d3, ds3, p3, q3, rfl, rfl, rfl, h3, r3⟩ := trodAll_cons r2
  obtain ⟨rfl, rfl, rfl⟩ := trodAll_nil r3
  obtain rfl : args = #[v0, v1, v2, v3] := by cases args; simp_all
  obtain ⟨rfl, rfl⟩ := trodVars_none hV
  simp only [List.append_nil] at hlt
  obtain ⟨d, rfl, rfl, rfl, wf_d⟩ := open_int Try.underlying22 (hval 0 22 v0 rfl rfl) h0
  have bd_d := bounds_u16 wf_d
  obtain ⟨dN, rfl⟩ := Int.eq_ofNat_of_zero_le bd_d.1
  obtain ⟨c, rfl, rfl, rfl⟩ := open_bool Try.underlying4 (hval 1 4 v1 rfl rfl) h1
  obtain ⟨la, rd_la, wf_la⟩ := rd_ints Try.underlying23 Try.underlying22 (by kernel_rfl) (okWide_slice Try.underlying23 (hval 2 23 v2 rfl rfl)) h2 (fun x hx => hlt x (by simp [hx]))
  obtain ⟨lb, rd_lb, wf_lb⟩ := rd_ints Try.underlying23 Try.underlying22 (by kernel_rfl) (okWide_slice Try.underlying23 (hval 3 23 v3 rfl rfl)) h3 (fun x hx => hlt x (by simp [hx]))
  clear hA0 hval0
  refine (mode_walk dN (by omega) c v2 v3 la lb W rd_la wf_la rd_lb wf_lb).mono fun e W' ⟨he, hg⟩ => ?_
  subst he
  exact ⟨_, rfl, law_post laidOut (by kernel_rfl) Try.underlying4 (by kernel_rfl) rfl hW' ⟨rfl, rfl, rfl⟩ hg⟩

theorem proved : Rows.FnAZModeSaid :=
  OpenClaim.holds_of_wide 3 Try.f3 rfl rfl rfl rfl rfl rfl rfl ⟨rfl, rfl, rfl, rfl, rfl⟩ rfl rfl rfl rfl rfl (by kernel_rfl) Try.func3 (by kernel_rfl)
    (of_decide_eq_true (by kernel_rfl)) (by unfold Func.isWrapper; first | (rw [if_pos (by decide +kernel)]; kernel_rfl) | (rw [if_neg (by decide +kernel)]; exact ⟨rfl, rfl⟩))
    (fun os started H enc _ => lifted os started H enc)
#print axioms proved
end Go.Proofs.Ytibdeekgcbmofaa.fnAZMode
