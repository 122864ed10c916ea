/-
  PROVED: laws.FnAZDecodes returns true for every input that the statement speaks of, and its arguments read afterwards as before: THE TIED CARD: package-level variables read when the call begins as the program's text lays them.
  No condition beyond the statement's own.
-/
import Derived.Test.YtopfdmmimgnciaaGreatDoorV48
import Derived.Test.YtopfdmmimgnciaaGreatDoorCards
import Derived.Test.YtopfdmmimgnciaaGreatDoorTie
import Derived.LaidMore
import Derived.SevenTiedAt
namespace Go.Proofs.YtopfdmmimgnciaaGreatDoor.fnAZDecodes
open Go.ChangeShapes Go.WideShapes Go.ChangeAt Go.RowKit

theorem own : ownKnob Tryz.prog.godebug = none := by kernel_rfl
theorem laidOut : laidOutB Tryz.prog = true := by kernel_rfl
def laidL : List (String × DataW Unit) := [("math/bits.deBruijn32tab", Rows.laid_math_bits_deBruijn32tab), ("math/bits.deBruijn64tab", Rows.laid_math_bits_deBruijn64tab), ("internal/strconv.uint64pow10", Rows.laid_internal_strconv_uint64pow10)]
theorem door_met (os : Os) (args : Array Value) : laidMetH Tryz.prog laidL ((World.doorLaid Tryz.prog 400 os).forCall (fun _ _ => 0) ⟨#[], args, []⟩).memory :=
  laidMetH_of_parts3 (fuel := 8) (laidMet_of_run' 8 (by kernel_rfl) (by kernel_rfl)) (by kernel_rfl) (by kernel_rfl)

set_option maxRecDepth 100000 in
theorem lifted (os : Os) (started : os.Started) (H : Type) (enc : TypeId × Value → H) :
    ReturnsInHanded {} Tryz.checked os 4 .any (fun w args => (Rows.fnAZDecodesSpec.pre enc Tryz.prog Tryz.f4 [] false w args ∧ laidMetH Tryz.prog laidL w) ∧ sizedMet enc Tryz.prog Tryz.f4 (OpenSpec.ofChange Rows.fnAZDecodesSpec) false w args)
      (Rows.fnAZDecodesSpec.post enc Tryz.prog Tryz.f4 false true false false) := by
  refine returnsInHanded_of_change_and (C := Tryz.checked) (X := fun w _ => laidMetH Tryz.prog laidL w) (fun _ _ _ hh h => h.of_heap hh) own started (by kernel_rfl) Tryz.func4
    (ChangeSpec.witness_shaped (enc := enc) (C := Tryz.checked) (os := os) (X := fun w _ => laidMetH Tryz.prog laidL w) false (World.doorLaid Tryz.prog 400 os) #[.slice none 0 0, .bool false, .int .u8 0, .slice none 0 0, .slice none 0 0, .int .u16 0] 8 rfl (World.shaped_of_RefB (by kernel_rfl) (by kernel_rfl)) (by kernel_rfl) (by kernel_rfl) (by kernel_rfl) (door_met os _)) ?_
  intro W base args ds gs before hval0 hW _ _ _ _
  have hval : ∀ (j : Nat) t v, Tryz.f4.params[j]? = some t → args[j]? = some v → Value.okWide Tryz.prog W .any base t v := hval0
  have hW' := hW
  have hlt : ∀ p ∈ before, p.block < W.heap.size := fun p hp => hW'.lt p hp
  obtain ⟨p, q, hA0, hV, rfl, hfz, hnd⟩ := hW
  have hA : DataW.TrodAll enc Tryz.prog W 0 (fun _ => true) true Tryz.f4.params.toList args.toList ds p := hA0
  rw [Tryz.params4] at hA hval
  obtain ⟨v0, vs0, d0, ds0, p0, q0, hargs, rfl, rfl, h0, r0⟩ := trodAll_cons hA
  obtain ⟨v1, vs1, d1, ds1, p1, q1, rfl, rfl, rfl, h1, r1⟩ := trodAll_cons r0
  obtain ⟨v2, vs2, d2, ds2, p2, q2, rfl, rfl, rfl, h2, r2⟩ := trodAll_cons r1
  obtain ⟨v3, vs3, d3, ds3, p3, q3, rfl, rfl, rfl, h3, r3⟩ := trodAll_cons r2
  obtain ⟨v4, vs4, d4, ds4, p4, q4, rfl, rfl, rfl, h4, r4⟩ := trodAll_cons r3
  obtain ⟨v5, vs5, d5, ds5, p5, q5, rfl, rfl, rfl, h5, r5⟩ := trodAll_cons r4
  obtain ⟨rfl, rfl, rfl⟩ := trodAll_nil r5
  obtain rfl : args = #[v0, v1, v2, v3, v4, v5] := by cases args; simp_all
  obtain ⟨rfl, rfl⟩ := trodVars_none hV
  simp only [List.append_nil] at hlt
  obtain ⟨code, rd_code, wf_code⟩ := rd_ints Tryz.underlying22 Tryz.underlying5 (by kernel_rfl) (okWide_slice Tryz.underlying22 (hval 0 22 v0 rfl rfl)) h0 (fun x hx => hlt x (by simp [hx]))
  obtain ⟨c, rfl, rfl, rfl⟩ := open_bool Tryz.underlying4 (hval 1 4 v1 rfl rfl) h1
  obtain ⟨n, rfl, rfl, rfl, wf_n⟩ := open_int Tryz.underlying5 (hval 2 5 v2 rfl rfl) h2
  have bd_n := bounds_u8 wf_n
  obtain ⟨nN, rfl⟩ := Int.eq_ofNat_of_zero_le bd_n.1
  obtain ⟨la, rd_la, wf_la⟩ := rd_ints Tryz.underlying23 Tryz.underlying41 (by kernel_rfl) (okWide_slice Tryz.underlying23 (hval 3 23 v3 rfl rfl)) h3 (fun x hx => hlt x (by simp [hx]))
  obtain ⟨lb, rd_lb, wf_lb⟩ := rd_ints Tryz.underlying23 Tryz.underlying41 (by kernel_rfl) (okWide_slice Tryz.underlying23 (hval 4 23 v4 rfl rfl)) h4 (fun x hx => hlt x (by simp [hx]))
  obtain ⟨wd, rfl, rfl, rfl, wf_wd⟩ := open_int Tryz.underlying41 (hval 5 41 v5 rfl rfl) h5
  have bd_wd := bounds_u16 wf_wd
  obtain ⟨wdN, rfl⟩ := Int.eq_ofNat_of_zero_le bd_wd.1
  clear hA0 hval0
  refine (decodes_walk v0 v3 v4 code c nN (by omega) la lb wdN (by omega) W rd_code wf_code rd_la wf_la rd_lb wf_lb).mono fun e W' ⟨he, hg⟩ => ?_
  subst he
  exact ⟨_, rfl, law_post laidOut (by kernel_rfl) Tryz.underlying4 (by kernel_rfl) rfl hW' ⟨rfl, rfl, rfl⟩ hg⟩

theorem holds : Rows.FnAZDecodesSaid :=
  OpenClaim.holds_of_wide 4 Tryz.f4 rfl rfl rfl rfl rfl rfl rfl ⟨rfl, rfl, rfl, rfl, rfl⟩ rfl rfl rfl rfl rfl (by kernel_rfl) Tryz.func4 (by kernel_rfl)
    (of_decide_eq_true (by kernel_rfl)) (by unfold Func.isWrapper; first | (rw [if_pos (by decide +kernel)]; kernel_rfl) | (rw [if_neg (by decide +kernel)]; exact ⟨rfl, rfl⟩))
    (fun os started H enc _ => lifted os started H enc)
theorem proved : Rows.FnAZDecodesCardSaid :=
  Claim7.holds_tied_plain_at .later [] [.data, .data, .data] true (true, "787dfec991022adafca5616b6c5fb1d78a1783fe1521d2f1d48dac547dbaebef") false
    holds (fun _ h => by cases h) (by kernel_rfl) (fun _ h => by cases h) fnAZDecodes_row_tie rfl ⟨rfl, rfl⟩ (by kernel_rfl) rfl
    (fun f fn hf hfn => by
      obtain rfl : f = 4 := Option.some.inj ((show Tryz.prog.funcNamed "given.example/pub-quietzone/laws.FnAZDecodes" = some 4 by kernel_rfl).symm.trans hf) |>.symm
      obtain rfl : fn = Tryz.f4 := (Option.some.inj (Tryz.func4.symm.trans hfn)).symm
      exact ⟨by kernel_rfl, fun j t ht => by
        rw [Tryz.params4] at ht
        have hm : t ∈ [22, 4, 5, 23, 23, 41] := by simpa using Array.mem_of_getElem? ht
        have hall : ([22, 4, 5, 23, 23, 41].all fun u => !Tryz.prog.wantsStandIn u) = true := by kernel_rfl
        exact (show Tryz.prog.wantsStandIn t = false by simpa using List.all_eq_true.1 hall t hm)⟩)
    (by kernel_rfl)
#print axioms proved
end Go.Proofs.YtopfdmmimgnciaaGreatDoor.fnAZDecodes
