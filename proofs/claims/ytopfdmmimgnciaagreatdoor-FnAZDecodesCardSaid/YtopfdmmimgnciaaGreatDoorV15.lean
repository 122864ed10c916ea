/-
  WALKS: spec.AZWordBits, AZUnstuffed. WALKS: the division of two polynomials. WALKS: the value of a polynomial, as the package makes it. WALKS: the decoder of words that are a code's. WALKS: the fields of Aztec's words; AztecDetectorResult; Decoder.correctBits of a code's words.
-/
import Derived.Test.YtopfdmmimgnciaaGreatDoorV13
import Derived.Test.YtopfdmmimgnciaaGreatDoorV14
import Derived.Test.YtopfdmmimgnciaaGreatDoorV39
import Derived.Deep.LoopGhost
import Derived.Test.YtopfdmmimgnciaaGreatDoorV03
namespace Go.Proofs.YtopfdmmimgnciaaGreatDoor
open Go.RowKit

end Go.Proofs.YtopfdmmimgnciaaGreatDoor
namespace Go.Proofs.YtopfdmmimgnciaaGreatDoor
open Go.RowKit

end Go.Proofs.YtopfdmmimgnciaaGreatDoor
namespace Go.Proofs.YtopfdmmimgnciaaGreatDoor
open Go.RowKit

theorem ev_at_zero {F : Gf.Fd} : ∀ (xs : List Nat), 0 < xs.length → Gf.ev F 0 xs = xs.getD (xs.length - 1) 0 := by
  have key : ∀ (xs : List Nat) (r : Nat), 0 < xs.length → Gf.evFrom F 0 r xs = xs.getD (xs.length - 1) 0 := by
    intro xs
    induction xs with
    | nil => intro r h; simp at h
    | cons x xs ih =>
      intro r _
      show Gf.evFrom F 0 (Gf.mul F 0 r ^^^ x) xs = _
      rcases xs with _ | ⟨y, t⟩
      · show Gf.mul F 0 r ^^^ x = x
        rw [Gf.zero_mul, Nat.zero_xor]
      · rw [ih _ (by simp)]
        simp [List.getD]
  exact fun xs h => key xs 0 h
theorem evFrom_drop (F : Gf.Fd) (a r k : Nat) (xs : List Nat) (hk : k < xs.length) : Gf.evFrom F a r (xs.drop k) = Gf.evFrom F a (Gf.mul F a r ^^^ xs[k]) (xs.drop (k + 1)) := by
  rw [List.drop_eq_getElem_cons hk]; rfl

set_option maxRecDepth 100000 in
set_option maxHeartbeats 4000000 in
/-- EvaluateAt. -/
theorem evaluate_any (F : Gf.Fd) (hF : Gf.Ok F) (h12 : F.m ≤ 12) (g q a : Nat) (xs : List Nat) (w : World) (hf : FieldAt w g F) (hp : PolyAt w q g xs)
    (hx : ∀ x ∈ xs, x < F.s) (ha : a < F.s) (hxn : 0 < xs.length) :
    Calls Tryz.prog 98 #[.pointer (some ⟨q, 0, none⟩), .int .i64 a] w fun e w' => e = .returned (.int .i64 ((Gf.ev F a xs : Nat) : Int)) ∧ Below w.heap.size w w' := by
  have hs12 := s_le F h12
  have hs4 := Gf.s_ge4 hF
  rcases Nat.eq_zero_or_pos a with rfl | ha0
  · have HE := Lib.hid (ev_at_zero (F := F) xs hxn)
    have HP := Lib.hid hp; clear hp
    go_enter Tryz.func98, Tryz.ntmps98
    go_wp2_with fail
    refine (coefficient_any q g xs 0 _ HP.out hxn).mono ?_
    rintro e w1 ⟨rfl, hb1⟩
    go_wp2
    go_ret
    exact ⟨ret_int (by rw [HE.out]; rfl), hb1⟩
  · have e0 : ((a : Int) == 0) = false := by simp; omega
    obtain ⟨sx, kx, vx⟩ := id hp
    obtain ⟨A, ca, rfl, ha1, ha2, ha3⟩ := vx.rd
    simp only [nv_len] at *
    unfold maxLen at ha2
    obtain ⟨ba, oa, rfl, hba, hca⟩ := ha3 hxn
    have x0 : w.cell? ⟨q, 0, none⟩ = some (.pointer (some ⟨g, 0, none⟩)) := by rw [kx.cell]; rfl
    have x1 : w.cell? ⟨q, 1, none⟩ = some (.slice (some ⟨ba, oa, none⟩) xs.length ca) := by rw [kx.cell]; rfl
    have HA := Lib.hid hca; clear hca ha3
    have HX := Lib.hid hx; clear hx
    clear kx vx
    have HF := Lib.hid hf; clear hf
    have HP := Lib.hid hp; clear hp
    by_cases h1 : a = 1
    · subst h1
      obtain ⟨V, hV⟩ : ∃ V, V = Gf.ev F 1 xs := ⟨_, rfl⟩
      rw [← hV]
      have HV : Hid (Gf.evFrom F 1 0 (xs.drop 0) = V) := Lib.hid (by rw [hV]; rfl)
      clear hV e0 ha0
      change Calls _ _ #[.pointer (some ⟨q, 0, none⟩), .int .i64 (1 : Int)] _ _
      go_enter Tryz.func98, Tryz.ntmps98
      go_wp2
      go_loop [5, 22] (fun rv iv => ∃ (k r : Nat), k ≤ xs.length ∧ r < F.s ∧ rv = .int .i64 r ∧ iv = .int .i64 k ∧ Hid (Gf.evFrom F 1 r (xs.drop k) = V)) (fun _ iv => xs.length - (intOf iv).toNat)
      case atStart => exact ⟨0, 0, Nat.zero_le _, by omega, rfl, rfl, HV⟩
      case round =>
        obtain ⟨k, r, hk, hr, rfl, rfl, HE⟩ := hrel
        by_cases hlt : k < xs.length
        · have hE := HE.out
          rw [evFrom_drop F 1 r k xs hlt, Gf.one_mul hF hr] at hE
          have hxk := HX.out _ (List.getElem_mem hlt)
          have ca1 := HA.out k _ (nv_at xs k hlt)
          have hn := Gf.xor_lt_s hr hxk
          generalize xs[k] = x at *
          have HE2 := Lib.hid hE; clear hE
          go_wp2_with fail
          refine (add_any r x (by omega) (by omega) _).mono ?_
          rintro e w1 ⟨rfl, rfl⟩
          generalize r ^^^ x = r' at *
          go_wp2
          go_round
          case rel => exact ⟨k + 1, r', by omega, hn, rfl, by go_num, HE2⟩
          case measure => simp [intOf]; omega
        · obtain rfl : k = xs.length := by omega
          have hE := HE.out
          rw [List.drop_length] at hE
          have HE2 : Hid (r = V) := Lib.hid hE
          clear hE
          go_wp2
          go_ret
          exact ⟨ret_int (by rw [HE2.out]), brf _⟩
    · have e1 : ((a : Int) == 1) = false := by simp; omega
      obtain ⟨V, hV⟩ : ∃ V, V = Gf.ev F a xs := ⟨_, rfl⟩
      rw [← hV]
      have hV0 : Gf.evFrom F a 0 (xs.drop 0) = V := by rw [hV]; rfl
      rw [evFrom_drop F a 0 0 xs hxn, Gf.mul_zero, Nat.zero_xor] at hV0
      have hx0 := HX.out _ (List.getElem_mem hxn)
      have c0 := HA.out 0 _ (nv_at xs 0 hxn)
      rw [Nat.add_zero] at c0
      generalize xs[0] = y at *
      have HV := Lib.hid hV0
      clear hV hV0 h1
      go_enter Tryz.func98, Tryz.ntmps98
      go_wp2
      clear e0 e1 c0
      go_loopw [8, 10] (fun rv iv wr => ∃ (k r : Nat), 1 ≤ k ∧ k ≤ xs.length ∧ r < F.s ∧ rv = .int .i64 r ∧ iv = .int .i64 k ∧ Hid (Gf.evFrom F a r (xs.drop k) = V) ∧ Hid (Below w.heap.size w wr)) (fun _ iv _ => xs.length - (intOf iv).toNat)
      case atStart => exact ⟨1, y, Nat.le_refl _, hxn, hx0, rfl, rfl, HV, Lib.hid (brf w)⟩
      case round =>
        obtain ⟨k, r, hk1, hk, hr, rfl, rfl, HE, HW⟩ := hrel
        by_cases hlt : k < xs.length
        · have hE := HE.out
          rw [evFrom_drop F a r k xs hlt] at hE
          have hxk := HX.out _ (List.getElem_mem hlt)
          have ca1 := HA.out k _ (nv_at xs k hlt)
          have hm := Gf.mul_lt (F := F) hF r ha
          have hn := Gf.xor_lt_s hm hxk
          have hT := fun W hW => mulGF_any g F hF h12 a r ha hr W hW
          generalize xs[k] = x at *
          generalize Gf.mul F a r = m at *
          have HT := Lib.hid hT; clear hT
          have HE2 := Lib.hid hE; clear hE
          have cF : wr.cell? ⟨q, 0, none⟩ = some (.pointer (some ⟨g, 0, none⟩)) := cell_up x0 HW.out
          have cG : wr.cell? ⟨q, 1, none⟩ = some (.slice (some ⟨ba, oa, none⟩) xs.length ca) := cell_up x1 HW.out
          have cA : wr.cell? ⟨ba, oa + k, none⟩ = some (.int .i64 ((x : Nat) : Int)) := cell_up ca1 HW.out
          go_wp2
          refine Can.wp_region_can (fun w' => w'.cell? ⟨q, 0, none⟩ = some (.pointer (some ⟨g, 0, none⟩)) ∧ w'.cell? ⟨q, 1, none⟩ = some (.slice (some ⟨ba, oa, none⟩) xs.length ca) ∧ w'.cell? ⟨ba, oa + k, none⟩ = some (.int .i64 ((x : Nat) : Int)) ∧ Below w.heap.size w w') 999 [0, 1, 2, 3, 4, 5, 7, 8, 9, 10, 11, 12, 13, 6, 14, 15] (by kernel_rfl) (by kernel_rfl) (fun _ _ d _ _ h => by cases d <;> exact h) ⟨cF, cG, cA, bdr HW.out⟩ (fun hHeld => ?_)
          repeat (refine Can.can_pure (v := ?_) rfl rfl (Or.inl ⟨by rfl, ?_⟩) ?_; rotate_left; (focus ((intro w hSw); (try dsimp only at hSw); go_simp; (try with_reducible rfl))); (try simp only [Act.put, List.getElem_toArray, List.getElem_cons_succ, List.getElem_cons_zero, List.setIfInBounds_toArray, List.set_cons_zero, List.set_cons_succ]))
          refine Can.can_eff rfl rfl (by rfl) (fun K hK => ?_)
          go_simp
          refine (HT.out _ (HF.out.up hHeld.2.2.2)).mono ?_
          rintro e w1 ⟨rfl, n, rfl⟩
          refine hK.out _ _ ⟨hHeld.1, hHeld.2.1, hHeld.2.2.1, bdn hHeld.2.2.2 n⟩ (fun hHeld1 => ?_)
          clear hK K
          (try simp only [Act.put, List.getElem_toArray, List.getElem_cons_succ, List.getElem_cons_zero, List.setIfInBounds_toArray, List.set_cons_zero, List.set_cons_succ])
          repeat (refine Can.can_pure (v := ?_) rfl rfl (Or.inl ⟨by rfl, ?_⟩) ?_; rotate_left; (focus ((intro w hSw); (try dsimp only at hSw); go_simp; (try with_reducible rfl))); (try simp only [Act.put, List.getElem_toArray, List.getElem_cons_succ, List.getElem_cons_zero, List.setIfInBounds_toArray, List.set_cons_zero, List.set_cons_succ]))
          refine Can.can_eff rfl rfl (by rfl) (fun K hK => ?_)
          go_simp
          refine (add_any m x (by omega) (by omega) _).mono ?_
          rintro e w1 ⟨rfl, rfl⟩
          refine hK.out _ _ ⟨cF, cG, cA, bdn HW.out _⟩ (fun hHeld2 => ?_)
          clear hK K
          (try simp only [Act.put, List.getElem_toArray, List.getElem_cons_succ, List.getElem_cons_zero, List.setIfInBounds_toArray, List.set_cons_zero, List.set_cons_succ])
          repeat (refine Can.can_pure (v := ?_) rfl rfl (Or.inl ⟨by rfl, ?_⟩) ?_; rotate_left; (focus ((intro w hSw); (try dsimp only at hSw); go_simp; (try with_reducible rfl))); (try simp only [Act.put, List.getElem_toArray, List.getElem_cons_succ, List.getElem_cons_zero, List.setIfInBounds_toArray, List.set_cons_zero, List.set_cons_succ]))
          refine Can.can_done ?_
          have HW2 := Lib.hid hHeld2.2.2.2
          clear hHeld hHeld1 hHeld2 cF cG cA
          generalize m ^^^ x = r' at *
          go_wp2
          go_roundw
          case rel => exact ⟨k + 1, r', by omega, by omega, hn, rfl, by go_num, HE2, HW2⟩
          case measure => simp [intOf]; omega
        · obtain rfl : k = xs.length := by omega
          have hE := HE.out
          rw [List.drop_length] at hE
          have HE2 : Hid (r = V) := Lib.hid hE
          clear hE
          go_wp2
          go_ret
          exact ⟨ret_int (by rw [HE2.out]), HW.out⟩
end Go.Proofs.YtopfdmmimgnciaaGreatDoor
namespace Go.Proofs.YtopfdmmimgnciaaGreatDoor
open Go.RowKit

theorem getBase_any (g : Nat) (F : Gf.Fd) (w : World) (hf : FieldAt w g F) :
    Calls Tryz.prog 100 #[.pointer (some ⟨g, 0, none⟩)] w fun e w' => e = .returned (.int .i64 F.b) ∧ w' = w := by
  obtain ⟨ge, gl, qz, qo, ce, cl, h⟩ := hf
  have c6 : w.cell? ⟨g, 6, none⟩ = some (.int .i64 F.b) := by rw [h.blk.cell]; rfl
  clear h
  go_enter Tryz.func100, Tryz.ntmps100
  go_wp2
  go_ret
  exact ⟨rfl, rfl⟩
theorem newDecoder_any (g : Nat) (w : World) :
    Calls Tryz.prog 74 #[.pointer (some ⟨g, 0, none⟩)] w fun e w' => ∃ gd, e = .returned (.pointer (some ⟨gd, 0, none⟩)) ∧ Blk w' gd 162 #[.pointer (some ⟨g, 0, none⟩)] ∧ Below w.heap.size w w' := by
  go_enter Tryz.func74, Tryz.ntmps74
  go_wp2
  go_ret
  exact ⟨_, rfl, Blk.fresh _ _ _, bal (brf w) _⟩
end Go.Proofs.YtopfdmmimgnciaaGreatDoor
namespace Go.Proofs.YtopfdmmimgnciaaGreatDoor
open Go.RowKit

theorem gf6_any (w : World) : Calls Tryz.prog 67 #[] w (MadeField w ⟨67, 6, 1⟩) := by
  have h := newField_any ⟨67, 6, 1⟩ (Gf.ok_of_mem (by simp [Gf.fields])) (by decide)
  have h2 : ∀ w, Calls Tryz.prog 93 #[.int .i64 67, .int .i64 64, .int .i64 1] w (MadeField w ⟨67, 6, 1⟩) := h
  clear h
  go_enter Tryz.func67, Tryz.ntmps67
  go_wp2_with fail
  refine (h2 _).mono ?_
  rintro e w1 ⟨g, rfl, hf, hb⟩
  go_wp2
  go_ret
  exact ⟨g, rfl, hf, hb⟩
theorem gfDM_any (w : World) : Calls Tryz.prog 94 #[] w (MadeField w ⟨301, 8, 1⟩) := by
  have h := newField_any ⟨301, 8, 1⟩ (Gf.ok_of_mem (by simp [Gf.fields])) (by decide)
  have h2 : ∀ w, Calls Tryz.prog 93 #[.int .i64 301, .int .i64 256, .int .i64 1] w (MadeField w ⟨301, 8, 1⟩) := h
  clear h
  go_enter Tryz.func94, Tryz.ntmps94
  go_wp2_with fail
  refine (h2 _).mono ?_
  rintro e w1 ⟨g, rfl, hf, hb⟩
  go_wp2
  go_ret
  exact ⟨g, rfl, hf, hb⟩
theorem gf8_any (w : World) : Calls Tryz.prog 68 #[] w (MadeField w ⟨301, 8, 1⟩) := by
  go_enter Tryz.func68, Tryz.ntmps68
  go_wp2_with fail
  refine (gfDM_any _).mono ?_
  rintro e w1 ⟨g, rfl, hf, hb⟩
  go_wp2
  go_ret
  exact ⟨g, rfl, hf, hb⟩
theorem gf10_any (w : World) : Calls Tryz.prog 69 #[] w (MadeField w ⟨1033, 10, 1⟩) := by
  have h := newField_any ⟨1033, 10, 1⟩ (Gf.ok_of_mem (by simp [Gf.fields])) (by decide)
  have h2 : ∀ w, Calls Tryz.prog 93 #[.int .i64 1033, .int .i64 1024, .int .i64 1] w (MadeField w ⟨1033, 10, 1⟩) := h
  clear h
  go_enter Tryz.func69, Tryz.ntmps69
  go_wp2_with fail
  refine (h2 _).mono ?_
  rintro e w1 ⟨g, rfl, hf, hb⟩
  go_wp2
  go_ret
  exact ⟨g, rfl, hf, hb⟩
theorem gf12_any (w : World) : Calls Tryz.prog 70 #[] w (MadeField w ⟨4201, 12, 1⟩) := by
  have h := newField_any ⟨4201, 12, 1⟩ (Gf.ok_of_mem (by simp [Gf.fields])) (by decide)
  have h2 : ∀ w, Calls Tryz.prog 93 #[.int .i64 4201, .int .i64 4096, .int .i64 1] w (MadeField w ⟨4201, 12, 1⟩) := h
  clear h
  go_enter Tryz.func70, Tryz.ntmps70
  go_wp2_with fail
  refine (h2 _).mono ?_
  rintro e w1 ⟨g, rfl, hf, hb⟩
  go_wp2
  go_ret
  exact ⟨g, rfl, hf, hb⟩
/-- Pointer d is a detector's result: so many words of data, so many layers. -/
def DetAt (w : World) (d D L : Nat) : Prop := ∃ u c, Blk w d 96 #[u, c, .int .i64 D, .int .i64 L]
theorem DetAt.up {w w' : World} {d D L : Nat} (h : DetAt w d D L) (hb : Below w.heap.size w w') : DetAt w' d D L := by
  obtain ⟨u, c, h⟩ := h; exact ⟨u, c, h.up hb⟩
theorem detNew_any (c : Bool) (D L : Nat) (w : World) : Calls Tryz.prog 24 #[.pointer none, .slice none 0 0, .bool c, .int .i64 D, .int .i64 L] w fun e w' => ∃ d, e = .returned (.pointer (some ⟨d, 0, none⟩)) ∧ DetAt w' d D L ∧ Below w.heap.size w w' := by
  go_enter Tryz.func24, Tryz.ntmps24
  go_wp2
  go_ret
  exact ⟨_, rfl, ⟨_, _, Blk.fresh' (by simp)⟩, bal (bal (brf w) _) _⟩
theorem detLayers_any (d D L : Nat) (w : World) (h : DetAt w d D L) : Calls Tryz.prog 64 #[.pointer (some ⟨d, 0, none⟩)] w fun e w' => e = .returned (.int .i64 L) ∧ w' = w := by
  obtain ⟨u, c, h⟩ := h
  have c3 : w.cell? ⟨d, 3, none⟩ = some (.int .i64 L) := by rw [h.cell]; rfl
  go_enter Tryz.func64, Tryz.ntmps64
  go_wp2
  go_ret
  exact ⟨rfl, rfl⟩
theorem nbData_any (d D L : Nat) (w : World) (h : DetAt w d D L) : Calls Tryz.prog 71 #[.pointer (some ⟨d, 0, none⟩)] w fun e w' => e = .returned (.int .i64 D) ∧ w' = w := by
  obtain ⟨u, c, h⟩ := h
  have c2 : w.cell? ⟨d, 2, none⟩ = some (.int .i64 D) := by rw [h.cell]; rfl
  go_enter Tryz.func71, Tryz.ntmps71
  go_wp2
  go_ret
  exact ⟨rfl, rfl⟩
end Go.Proofs.YtopfdmmimgnciaaGreatDoor
