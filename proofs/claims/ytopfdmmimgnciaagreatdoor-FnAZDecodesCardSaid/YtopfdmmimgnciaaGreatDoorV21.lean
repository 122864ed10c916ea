/-
  WALKS: how great the errors are.
-/
import Derived.Test.YtopfdmmimgnciaaGreatDoorV20
import Derived.Test.YtopfdmmimgnciaaGreatDoorV15
namespace Go.Proofs.YtopfdmmimgnciaaGreatDoor
open Go.RowKit

theorem flip_parts : ∀ q : Nat, q < 16 → ∀ r : Nat, r < 256 → (((bits .and .i64 ((256 * q + r : Nat) : Int) 1 == 0) = true → bits .or .i64 ((256 * q + r : Nat) : Int) 1 = (((256 * q + r) ^^^ 1 : Nat) : Int)) ∧ ((bits .and .i64 ((256 * q + r : Nat) : Int) 1 == 0) = false → bits .and .i64 ((256 * q + r : Nat) : Int) (-2) = (((256 * q + r) ^^^ 1 : Nat) : Int))) := by
  decide +kernel
theorem flip_one (t : Nat) (ht : t < 4096) : (((bits .and .i64 (t : Int) 1 == 0) = true → bits .or .i64 (t : Int) 1 = ((t ^^^ 1 : Nat) : Int)) ∧ ((bits .and .i64 (t : Int) 1 == 0) = false → bits .and .i64 (t : Int) (-2) = ((t ^^^ 1 : Nat) : Int))) := by
  have h := flip_parts (t / 256) (by omega) (t % 256) (by omega)
  rw [Nat.div_add_mod] at h
  exact h
namespace Gf
theorem denF_step (F : Fd) (X : Nat) (L : List Nat) (j d : Nat) (hj : j < L.length) : denF F X (L.drop j) d = denF F X (L.drop (j + 1)) (if L[j] = X then d else mul F d (mul F L[j] (inv F X) ^^^ 1)) := by
  rw [List.drop_eq_getElem_cons hj]; rfl
theorem denF_lt {F : Fd} (h : Ok F) (X : Nat) {L : List Nat} (hL : Ls F L) : denF F X L 1 < F.s := by
  have h1 : 1 < F.s := by have := s_ge4 h; omega
  rw [denF_prO h L 1 hL h1]; exact mul_lt h _ h1
theorem denF_pos {F : Fd} (h : Ok F) {X : Nat} (h0 : 0 < X) (hX : X < F.s) {L : List Nat} (hL : Ls F L) (hp : ∀ Z ∈ L, 0 < Z) : 0 < denF F X L 1 := by
  have h1 : 1 < F.s := by have := s_ge4 h; omega
  have ha := inv_lt h X
  rw [denF_prO h L 1 hL h1, one_mul h (prO_lt h ha X L)]
  exact prO_pos h ha L fun Z hz hne => inv_ne h h0 hX (hp Z hz) (hL Z hz) (fun hc => hne hc.symm)
theorem mag_lt {F : Fd} (h : Ok F) {om L : List Nat} (hom : ∀ x ∈ om, x < F.s) (X : Nat) : mag F om L X < F.s := by
  have h1 : ev F (inv F X) om < F.s := ev_lt h (inv_lt h X) hom
  unfold mag
  split
  · exact mul_lt h _ h1
  · exact mul_lt h _ (mul_lt h _ h1)
theorem nodup_at {L : List Nat} (h : L.Nodup) {i j : Nat} (hi : i < L.length) (hj : j < L.length) (hne : i ≠ j) : L[j] ≠ L[i] := by
  rcases Nat.lt_or_ge i j with h1 | h1
  · exact fun he => (List.pairwise_iff_getElem.1 h i j hi hj h1) he.symm
  · exact fun he => (List.pairwise_iff_getElem.1 h j i hj hi (by omega)) he
end Gf

set_option maxRecDepth 100000 in
set_option maxHeartbeats 8000000 in
theorem findMags_any (F : Gf.Fd) (hF : Gf.Ok F) (h12 : F.m ≤ 12) (gd g q : Nat) (om L : List Nat) (vL : Value) (w : World) (hd : Blk w gd 162 #[.pointer (some ⟨g, 0, none⟩)]) (hf : FieldAt w g F)
    (hp : PolyAt w q g om) (hx : ∀ x ∈ om, x < F.s) (hn : 0 < om.length) (hv : Rd w w.heap.size vL (nv L)) (hL : Gf.Ls F L) (hL0 : ∀ X ∈ L, 0 < X) (hnd : L.Nodup) (h4 : L.length ≤ 8192) :
    Calls Tryz.prog 104 #[.pointer (some ⟨gd, 0, none⟩), .pointer (some ⟨q, 0, none⟩), vL] w fun e w' => ∃ b, w.heap.size ≤ b ∧ e = .returned (.tuple #[.slice (some ⟨b, 0, none⟩) L.length L.length, .nilIface]) ∧ Blk w' b 3 (nv (L.map (Gf.mag F om L))).toArray ∧ Below w.heap.size w w' := by
  have hs12 := s_le F h12
  have hs4 := Gf.s_ge4 hF
  have d0 : w.cell? ⟨gd, 0, none⟩ = some (.pointer (some ⟨g, 0, none⟩)) := by rw [hd.cell]; rfl
  clear hd
  obtain ⟨A, ca, rfl, ha1, ha2, ha3⟩ := hv
  simp only [nv_len] at *
  unfold maxLen at ha2
  have hmk := fun W => mk_ints L.length W (by omega)
  have HA3 := Lib.hid ha3; clear ha3
  have HF := Lib.hid hf; clear hf
  have HP := Lib.hid hp; clear hp
  have HX := Lib.hid hx; clear hx
  have HL := Lib.hid (And.intro hL (And.intro hL0 hnd)); clear hL hL0 hnd
  have HPl : Hid ((L.map (Gf.mag F om L)).length = L.length) := Lib.hid (List.length_map ..)
  go_enter Tryz.func104, Tryz.ntmps104
  go_wp2
  clear hmk
  have HS0 := Lib.hid (Blk.fresh w 3 (nv (List.replicate L.length 0)).toArray)
  go_loopw [10] (fun v10 wr => ∃ (i : Nat), i ≤ L.length ∧ v10 = .int .i64 i ∧ Hid (Blk wr w.heap.size 3 (nv (fillA (L.map (Gf.mag F om L)) 0 L.length i)).toArray) ∧ Hid (Below w.heap.size w wr)) (fun v10 _ => L.length - (intOf v10).toNat)
  case atStart => exact ⟨0, Nat.zero_le _, rfl, Lib.hid (by rw [fill_zero]; exact HS0.out), Lib.hid (bal (brf w) _)⟩
  case round =>
    clear HS0
    obtain ⟨i, hi, rfl, HB, HW⟩ := hrel
    by_cases hlt : i < L.length
    · obtain ⟨ba, oa, rfl, hba, hca⟩ := HA3.out (by omega)
      have cx1 := hca i _ (nv_at L i hlt)
      have hX0 := HL.out.2.1 _ (List.getElem_mem hlt)
      have hXs := HL.out.1 _ (List.getElem_mem hlt)
      have hPi : i < (L.map (Gf.mag F om L)).length := by rw [HPl.out]; exact hlt
      have hset := fill_set (L.map (Gf.mag F om L)) 0 L.length i hPi (by rw [HPl.out]; omega)
      have hfl := fill_len (L.map (Gf.mag F om L)) 0 L.length i (by rw [HPl.out]; omega) (by rw [HPl.out]; omega)
      have hv : (L.map (Gf.mag F om L))[i] = Gf.mag F om L L[i] := by rw [List.getElem_map]
      rw [hv] at hset
      have hne : ∀ j, (hj : j < L.length) → i ≠ j → L[j] ≠ L[i] := fun j hj hij => Gf.nodup_at HL.out.2.2 hlt hj hij
      have HCA := Lib.hid hca; clear hca
      obtain ⟨X, hX⟩ : ∃ X, X = L[i] := ⟨_, rfl⟩
      rw [← hX] at hX0 hXs hset cx1
      have HNE : Hid (∀ j, (hj : j < L.length) → i ≠ j → L[j] ≠ X) := Lib.hid (by rw [hX]; exact hne)
      have HXI := Lib.hid hX; clear hX hne hv
      have HSET := Lib.hid (And.intro hset hfl); clear hset hfl hPi
      have hxi := Gf.inv_lt hF X
      have hden := Gf.denF_lt hF X HL.out.1
      have hden0 := Gf.denF_pos hF hX0 hXs HL.out.1 HL.out.2.1
      have hmg : Gf.mag F om L X = if F.b = 0 then Gf.mul F (Gf.ev F (Gf.inv F X) om) (Gf.inv F (Gf.denF F X L 1)) else Gf.mul F (Gf.mul F (Gf.ev F (Gf.inv F X) om) (Gf.inv F (Gf.denF F X L 1))) (Gf.inv F X) := rfl
      obtain ⟨mg, hmge⟩ : ∃ mg, mg = Gf.mag F om L X := ⟨_, rfl⟩
      rw [← hmge] at hmg HSET
      clear hmge
      obtain ⟨den, hde⟩ : ∃ den, den = Gf.denF F X L 1 := ⟨_, rfl⟩
      rw [← hde] at hmg hden hden0
      have HDE : Hid (Gf.denF F X (L.drop 0) 1 = den) := Lib.hid hde.symm; clear hde
      have HDS := Lib.hid (fun j d hj => Gf.denF_step F X L j d hj)
      obtain ⟨xi, hxie⟩ : ∃ xi, xi = Gf.inv F X := ⟨_, rfl⟩
      rw [← hxie] at hmg hxi HDS
      have HXE := Lib.hid hxie; clear hxie
      have HMG := Lib.hid hmg; clear hmg
      have dr : wr.cell? ⟨gd, 0, none⟩ = some (.pointer (some ⟨g, 0, none⟩)) := cell_up d0 HW.out
      have cX : wr.cell? ⟨ba, oa + i, none⟩ = some (.int .i64 (X : Int)) := cell_up cx1 HW.out
      clear cx1
      have HFr := Lib.hid (HF.out.up HW.out)
      have HPr := Lib.hid (HP.out.up HW.out)
      go_wp2_with fail
      refine Can.wp_region_can (fun w' => w'.cell? ⟨gd, 0, none⟩ = some (.pointer (some ⟨g, 0, none⟩)) ∧ w'.cell? ⟨ba, oa + i, none⟩ = some (.int .i64 (X : Int)) ∧ Below wr.heap.size wr w') 999 [0, 1, 2, 3, 4, 5, 6, 7, 8, 9, 10, 11, 12, 13] (by kernel_rfl) (by kernel_rfl) (fun _ _ d _ _ h => by cases d <;> exact h) ⟨dr, cX, bdr (brf _)⟩ (fun hHeld => ?_)
      repeat (refine Can.can_pure (v := ?_) rfl rfl (Or.inl ⟨by rfl, ?_⟩) ?_; rotate_left; (focus ((intro w hSw); (try dsimp only at hSw); go_simp; (try with_reducible rfl))); (try simp only [Act.put, List.getElem_toArray, List.getElem_cons_succ, List.getElem_cons_zero, List.setIfInBounds_toArray, List.set_cons_zero, List.set_cons_succ]))
      refine Can.can_eff rfl rfl (by rfl) (fun K hK => ?_)
      go_simp
      refine (inverse_any g F hF h12 X hX0 hXs _ (HFr.out.up hHeld.2.2)).mono ?_
      rintro e w8 ⟨rfl, hb8⟩
      refine hK.out _ _ ⟨cell_up hHeld.1 hb8, cell_up hHeld.2.1 hb8, bup hHeld.2.2 hb8⟩ (fun hHeld1 => ?_)
      clear hK K
      (try simp only [Act.put, List.getElem_toArray, List.getElem_cons_succ, List.getElem_cons_zero, List.setIfInBounds_toArray, List.set_cons_zero, List.set_cons_succ])
      rw [← HXE.out]
      repeat (refine Can.can_pure (v := ?_) rfl rfl (Or.inl ⟨by rfl, ?_⟩) ?_; rotate_left; (focus ((intro w hSw); (try dsimp only at hSw); go_simp; (try with_reducible rfl))); (try simp only [Act.put, List.getElem_toArray, List.getElem_cons_succ, List.getElem_cons_zero, List.setIfInBounds_toArray, List.set_cons_zero, List.set_cons_succ]))
      refine Can.can_done ?_
      have HV := Lib.hid hHeld1.2.2
      clear hHeld hHeld1 hb8 dr cX
      go_wp2_with fail
      go_loopw [13, 14] (fun v13 v14 wr' => ∃ (d j : Nat), j ≤ L.length ∧ d < F.s ∧ v13 = .int .i64 d ∧ v14 = .int .i64 j ∧ Hid (Gf.denF F X (L.drop j) d = den) ∧ Hid (Below wr.heap.size wr wr')) (fun _ v14 _ => L.length - (intOf v14).toNat)
      case atStart => exact ⟨1, 0, Nat.zero_le _, by omega, rfl, rfl, HDE, HV⟩
      case round =>
        clear HDE HV
        rename World => wi
        obtain ⟨d, j, hj, hds, rfl, rfl, HDJ, HV⟩ := hrel
        have HFi := Lib.hid (HFr.out.up HV.out)
        have di : wi.cell? ⟨gd, 0, none⟩ = some (.pointer (some ⟨g, 0, none⟩)) := cell_up (cell_up d0 HW.out) HV.out
        by_cases hjl : j < L.length
        · have hstp := HDS.out j d hjl
          rw [HDJ.out] at hstp
          have hZs := HL.out.1 _ (List.getElem_mem hjl)
          have cz1 : wi.cell? ⟨ba, oa + j, none⟩ = some (.int .i64 ((L[j] : Nat) : Int)) := cell_up (cell_up (HCA.out j _ (nv_at L j hjl)) HW.out) HV.out
          by_cases hij : i = j
          · subst hij
            rw [if_pos HXI.out.symm] at hstp
            have HSJ := Lib.hid hstp.symm; clear hstp hZs cz1
            have e0 : ((i : Int) == (i : Int)) = true := by simp
            go_wp2
            go_roundw
            case rel => exact ⟨d, i + 1, by omega, hds, rfl, by go_num, HSJ, HV⟩
            case measure => simp [intOf]; omega
          · rw [if_neg (HNE.out j hjl hij)] at hstp
            have e0 : ((i : Int) == (j : Int)) = false := by simp; omega
            have htl : Gf.mul F L[j] xi < F.s := Gf.mul_lt hF _ hZs
            generalize L[j] = Z at *
            have hmt := fun W hW => mulGF_any g F hF h12 Z xi hZs hxi W hW
            generalize Gf.mul F Z xi = t at *
            obtain ⟨f1, f2⟩ := flip_one t (by omega)
            have ht1 : t ^^^ 1 < F.s := Gf.xlt htl (by omega)
            generalize t ^^^ 1 = u at *
            have hdn := Gf.mul_lt hF u hds
            have HMT := Lib.hid hmt; clear hmt
            have HSJ := Lib.hid hstp.symm; clear hstp
            go_wp2_with fail
            refine Can.wp_region_can (fun w' => w'.cell? ⟨gd, 0, none⟩ = some (.pointer (some ⟨g, 0, none⟩)) ∧ w'.cell? ⟨ba, oa + j, none⟩ = some (.int .i64 (Z : Int)) ∧ Below wi.heap.size wi w') 999 [0, 1, 2, 3, 4, 5, 6, 7, 8, 9, 10] (by kernel_rfl) (by kernel_rfl) (fun _ _ d _ _ h => by cases d <;> exact h) ⟨di, cz1, bdr (brf _)⟩ (fun hHeld => ?_)
            repeat (refine Can.can_pure (v := ?_) rfl rfl (Or.inl ⟨by rfl, ?_⟩) ?_; rotate_left; (focus ((intro w hSw); (try dsimp only at hSw); go_simp; (try with_reducible rfl))); (try simp only [Act.put, List.getElem_toArray, List.getElem_cons_succ, List.getElem_cons_zero, List.setIfInBounds_toArray, List.set_cons_zero, List.set_cons_succ]))
            refine Can.can_eff rfl rfl (by rfl) (fun K hK => ?_)
            go_simp
            refine (HMT.out _ (HFi.out.up hHeld.2.2)).mono ?_
            rintro e w8 ⟨rfl, n8, rfl⟩
            refine hK.out _ _ ⟨hHeld.1, hHeld.2.1, bdn hHeld.2.2 _⟩ (fun hHeld1 => ?_)
            clear hK K
            (try simp only [Act.put, List.getElem_toArray, List.getElem_cons_succ, List.getElem_cons_zero, List.setIfInBounds_toArray, List.set_cons_zero, List.set_cons_succ])
            repeat (refine Can.can_pure (v := ?_) rfl rfl (Or.inl ⟨by rfl, ?_⟩) ?_; rotate_left; (focus ((intro w hSw); (try dsimp only at hSw); go_simp; (try with_reducible rfl))); (try simp only [Act.put, List.getElem_toArray, List.getElem_cons_succ, List.getElem_cons_zero, List.setIfInBounds_toArray, List.set_cons_zero, List.set_cons_succ]))
            refine Can.can_done ?_
            obtain ⟨d9, _, hV9⟩ := hHeld1
            have HV9 := Lib.hid hV9; clear hV9 hHeld di cz1
            generalize World.drewN _ n8 = w9 at *
            have F2 := Lib.hid f2
            have F1 := Lib.hid f1
            clear f1 f2
            cases hp : (bits .and .i64 (t : Int) 1 == 0)
            · have g2 := F2.out hp
              go_wp2_with fail
              refine (mulGF_any g F hF h12 d u hds ht1 _ (HFi.out.up HV9.out)).mono ?_
              rintro e w9 ⟨rfl, n9, rfl⟩
              have HVn := Lib.hid (bup HV.out (bdn HV9.out n9))
              clear d9 HV9
              go_wp2
              go_roundw
              case rel => exact ⟨Gf.mul F d u, j + 1, by omega, hdn, rfl, by go_num, HSJ, HVn⟩
              case measure => simp [intOf]; omega
            · have g1 := F1.out hp
              go_wp2_with fail
              refine (mulGF_any g F hF h12 d u hds ht1 _ (HFi.out.up HV9.out)).mono ?_
              rintro e w9 ⟨rfl, n9, rfl⟩
              have HVn := Lib.hid (bup HV.out (bdn HV9.out n9))
              clear d9 HV9
              go_wp2
              go_roundw
              case rel => exact ⟨Gf.mul F d u, j + 1, by omega, hdn, rfl, by go_num, HSJ, HVn⟩
              case measure => simp [intOf]; omega
        · obtain rfl : j = L.length := by omega
          have hdd : d = den := by
            have h9 := HDJ.out
            rw [List.drop_length] at h9
            exact h9
          subst hdd
          clear HDJ
          have hid0 := Gf.inv_lt hF d
          have hevl : Gf.ev F xi om < F.s := Gf.ev_lt hF hxi HX.out
          have hmt0 := Gf.mul_lt hF (Gf.inv F d) hevl
          have HMG2 := Lib.hid HMG.out; clear HMG
          obtain ⟨iv, hiv⟩ : ∃ iv, iv = Gf.inv F d := ⟨_, rfl⟩
          rw [← hiv] at HMG2 hid0 hmt0
          have HIV := Lib.hid hiv; clear hiv
          go_wp2_with fail
          refine (inverse_any g F hF h12 d hden0 hds _ HFi.out).mono ?_
          rintro e w3 ⟨rfl, hb3⟩
          rw [← HIV.out]
          have HV3 := Lib.hid (bup HV.out hb3); clear hb3
          have hB3 := HB.out.up HV3.out
          have d3 : w3.cell? ⟨gd, 0, none⟩ = some (.pointer (some ⟨g, 0, none⟩)) := cell_up (cell_up d0 HW.out) HV3.out
          have HB3 := Lib.hid hB3; clear hB3
          have HF3 := Lib.hid (HFr.out.up HV3.out)
          have HP3 := Lib.hid (HPr.out.up HV3.out)
          clear di HFi HV
          have hev := fun W hf hp => evaluate_any F hF h12 g q xi om W hf hp HX.out hxi hn
          obtain ⟨ev, hee⟩ : ∃ ev, ev = Gf.ev F xi om := ⟨_, rfl⟩
          rw [← hee] at HMG2 hevl hmt0 hev
          clear hee
          have HEV := Lib.hid hev; clear hev
          obtain ⟨m0, hm0⟩ : ∃ m0, m0 = Gf.mul F ev iv := ⟨_, rfl⟩
          rw [← hm0] at HMG2 hmt0
          have HM0 := Lib.hid hm0; clear hm0
          go_wp2_with fail
          refine Can.wp_region_can (fun w' => w'.cell? ⟨gd, 0, none⟩ = some (.pointer (some ⟨g, 0, none⟩)) ∧ Below w3.heap.size w3 w') 12 [0, 1, 2, 3, 4, 5, 6, 7, 9, 8, 10, 11, 12] (by kernel_rfl) (by kernel_rfl) (fun _ _ d _ _ h => by cases d <;> exact h) ⟨d3, bdr (brf _)⟩ (fun hHeld => ?_)
          repeat (refine Can.can_pure (v := ?_) rfl rfl (Or.inl ⟨by rfl, ?_⟩) ?_; rotate_left; (focus ((intro w hSw); (try dsimp only at hSw); go_simp; (try with_reducible rfl))); (try simp only [Act.put, List.getElem_toArray, List.getElem_cons_succ, List.getElem_cons_zero, List.setIfInBounds_toArray, List.set_cons_zero, List.set_cons_succ]))
          refine Can.can_eff rfl rfl (by rfl) (fun K hK => ?_)
          go_simp
          refine (HEV.out _ (HF3.out.up hHeld.2) (HP3.out.up hHeld.2)).mono ?_
          rintro e w4 ⟨rfl, hb4⟩
          refine hK.out _ _ ⟨cell_up hHeld.1 hb4, bup hHeld.2 hb4⟩ (fun hHeld1 => ?_)
          clear hK K
          (try simp only [Act.put, List.getElem_toArray, List.getElem_cons_succ, List.getElem_cons_zero, List.setIfInBounds_toArray, List.set_cons_zero, List.set_cons_succ])
          repeat (refine Can.can_pure (v := ?_) rfl rfl (Or.inl ⟨by rfl, ?_⟩) ?_; rotate_left; (focus ((intro w hSw); (try dsimp only at hSw); go_simp; (try with_reducible rfl))); (try simp only [Act.put, List.getElem_toArray, List.getElem_cons_succ, List.getElem_cons_zero, List.setIfInBounds_toArray, List.set_cons_zero, List.set_cons_succ]))
          refine Can.can_eff rfl rfl (by rfl) (fun K hK => ?_)
          go_simp
          refine (mulGF_any g F hF h12 ev iv hevl hid0 _ (HF3.out.up hHeld1.2)).mono ?_
          rintro e w5 ⟨rfl, n5, rfl⟩
          refine hK.out _ _ ⟨hHeld1.1, bdn hHeld1.2 _⟩ (fun hHeld2 => ?_)
          clear hK K
          (try simp only [Act.put, List.getElem_toArray, List.getElem_cons_succ, List.getElem_cons_zero, List.setIfInBounds_toArray, List.set_cons_zero, List.set_cons_succ])
          rw [← HM0.out]
          repeat (refine Can.can_pure (v := ?_) rfl rfl (Or.inl ⟨by rfl, ?_⟩) ?_; rotate_left; (focus ((intro w hSw); (try dsimp only at hSw); go_simp; (try with_reducible rfl))); (try simp only [Act.put, List.getElem_toArray, List.getElem_cons_succ, List.getElem_cons_zero, List.setIfInBounds_toArray, List.set_cons_zero, List.set_cons_succ]))
          have hB4 := HB3.out.up hHeld2.2
          have cO : ∃ old : Nat, (World.drewN w4 n5).cell? ⟨w.heap.size, i, none⟩ = some (.int .i64 (old : Int)) := ⟨_, by rw [hB4.cell]; exact nv_cell _ _ (by rw [HSET.out.2]; exact hlt)⟩
          obtain ⟨old, cO⟩ := cO
          have fO : (World.drewN w4 n5).frozen? ⟨w.heap.size, i, none⟩ = false := hB4.frozen _
          have HB4 := Lib.hid hB4; clear hB4
          refine Can.can_tail rfl rfl (by rfl) (fun K hK => ?_)
          go_simp
          refine hK.out _ _ ?_
          clear hK K
          have d4 := hHeld2.1
          have HV4 := Lib.hid (bup HV3.out hHeld2.2)
          have HW5 := Lib.hid ((bup HW.out HV4.out).setCell (p := ⟨w.heap.size, i, none⟩) (Nat.le_refl _) (.int .i64 ((m0 : Nat) : Int)))
          have hB5 := HB4.out.put i (.int .i64 ((m0 : Nat) : Int))
          rw [nv_set] at hB5
          have HB5 := Lib.hid hB5
          have d5 := cell_up d0 HW5.out
          have HF5 := Lib.hid (HF.out.up HW5.out)
          clear hHeld hHeld1 hHeld2 hb4 d3 d4 cO fO HB4 hB5
          generalize World.setCell (World.drewN w4 n5) ⟨w.heap.size, i, none⟩ (.int .i64 ((m0 : Nat) : Int)) = w5 at *
          by_cases hb0 : F.b = 0
          · have hb1 : (((F.b : Nat) : Int) == 0) = true := by simp; omega
            have hmg0 : m0 = mg := by rw [HMG2.out, if_pos hb0]
            have HB6 : Hid (Blk w5 w.heap.size 3 (nv (fillA (L.map (Gf.mag F om L)) 0 L.length (i + 1))).toArray) := Lib.hid (by
              have h9 := HB5.out
              rw [hmg0, HSET.out.1] at h9
              exact h9)
            clear hb0 hmg0
            go_wp2_with fail
            refine (getBase_any g F _ HF5.out).mono ?_
            rintro e w6 ⟨rfl, rfl⟩
            go_wp2
            go_roundw
            case rel => exact ⟨i + 1, by omega, by go_num, HB6, HW5⟩
            case measure => simp [intOf]; omega
          · have hb1 : (((F.b : Nat) : Int) == 0) = false := by simp; omega
            have hmg0 : Gf.mul F m0 xi = mg := by rw [HMG2.out, if_neg hb0]
            have hlen5 : ((fillA (L.map (Gf.mag F om L)) 0 L.length i).set i m0).length = L.length := by rw [List.length_set, HSET.out.2]
            have c5 : w5.cell? ⟨w.heap.size, i, none⟩ = some (.int .i64 ((m0 : Nat) : Int)) := by
              rw [HB5.out.cell, nv_cell _ _ (by rw [hlen5]; exact hlt), List.getElem_set_self]
            have f5 : w5.frozen? ⟨w.heap.size, i, none⟩ = false := HB5.out.frozen _
            have HMM := Lib.hid hmg0; clear hmg0 hlen5
            have HLN : Hid (((fillA (L.map (Gf.mag F om L)) 0 L.length i).set i m0).length = L.length) := Lib.hid (by rw [List.length_set, HSET.out.2])
            clear hb0
            go_wp2_with fail
            refine (getBase_any g F _ HF5.out).mono ?_
            rintro e w6 ⟨rfl, rfl⟩
            go_wp2_with fail
            refine Can.wp_region_can (fun w' => w'.cell? ⟨gd, 0, none⟩ = some (.pointer (some ⟨g, 0, none⟩)) ∧ w'.cell? ⟨w.heap.size, i, none⟩ = some (.int .i64 ((m0 : Nat) : Int)) ∧ Below w6.heap.size w6 w') 13 [0, 1, 2, 3, 4, 5, 6, 7, 8, 9, 10, 11, 12, 13] (by kernel_rfl) (by kernel_rfl) (fun _ _ d _ _ h => by cases d <;> exact h) ⟨d5, c5, bdr (brf _)⟩ (fun hHeld => ?_)
            repeat (refine Can.can_pure (v := ?_) rfl rfl (Or.inl ⟨by rfl, ?_⟩) ?_; rotate_left; (focus ((intro w hSw); (try dsimp only at hSw); go_simp; (try with_reducible rfl))); (try simp only [Act.put, List.getElem_toArray, List.getElem_cons_succ, List.getElem_cons_zero, List.setIfInBounds_toArray, List.set_cons_zero, List.set_cons_succ]))
            refine Can.can_eff rfl rfl (by rfl) (fun K hK => ?_)
            go_simp
            refine (mulGF_any g F hF h12 m0 xi hmt0 hxi _ (HF5.out.up hHeld.2.2)).mono ?_
            rintro e w7 ⟨rfl, n7, rfl⟩
            refine hK.out _ _ ⟨hHeld.1, hHeld.2.1, bdn hHeld.2.2 _⟩ (fun hHeld1 => ?_)
            clear hK K
            (try simp only [Act.put, List.getElem_toArray, List.getElem_cons_succ, List.getElem_cons_zero, List.setIfInBounds_toArray, List.set_cons_zero, List.set_cons_succ])
            rw [HMM.out]
            repeat (refine Can.can_pure (v := ?_) rfl rfl (Or.inl ⟨by rfl, ?_⟩) ?_; rotate_left; (focus ((intro w hSw); (try dsimp only at hSw); go_simp; (try with_reducible rfl))); (try simp only [Act.put, List.getElem_toArray, List.getElem_cons_succ, List.getElem_cons_zero, List.setIfInBounds_toArray, List.set_cons_zero, List.set_cons_succ]))
            generalize w6.drew.drewN n7 = w7 at *
            have hB7 := HB5.out.up hHeld1.2.2
            have c7 := hHeld1.2.1
            have f7 : w7.frozen? ⟨w.heap.size, i, none⟩ = false := hB7.frozen _
            have HB7 := Lib.hid hB7; clear hB7
            refine Can.can_tail rfl rfl (by rfl) (fun K hK => ?_)
            go_simp
            refine hK.out _ _ ?_
            clear hK K
            have hput := HB7.out.put i (.int .i64 ((mg : Nat) : Int))
            rw [nv_set, List.set_set, HSET.out.1] at hput
            have HPUT := Lib.hid hput
            have HW8 := Lib.hid ((bup HW5.out hHeld1.2.2).setCell (p := ⟨w.heap.size, i, none⟩) (Nat.le_refl _) (.int .i64 ((mg : Nat) : Int)))
            clear hHeld hHeld1 c5 f5 c7 f7 d5 hput HB7
            go_wp2
            go_roundw
            case rel => exact ⟨i + 1, by omega, by go_num, HPUT, HW8⟩
            case measure => simp [intOf]; omega
    · obtain rfl : i = L.length := by omega
      have HBF : Hid (Blk wr w.heap.size 3 (nv (L.map (Gf.mag F om L))).toArray) := Lib.hid (by
        have h9 := HB.out
        have e := fill_end (L.map (Gf.mag F om L)) 0 L.length
        rw [HPl.out, Nat.sub_self, List.replicate_zero, List.append_nil] at e
        rw [e] at h9
        exact h9)
      clear HB
      go_wp2
      go_ret2
      exact ⟨w.heap.size, Nat.le_refl _, rfl, HBF.out, HW.out⟩
end Go.Proofs.YtopfdmmimgnciaaGreatDoor
