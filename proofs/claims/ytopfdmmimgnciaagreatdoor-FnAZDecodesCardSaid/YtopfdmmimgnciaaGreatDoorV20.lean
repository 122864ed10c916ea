/-
  WALKS: where the errors are.
-/
import Derived.Test.YtopfdmmimgnciaaGreatDoorV19
namespace Go.Proofs.YtopfdmmimgnciaaGreatDoor
open Go.RowKit

namespace Gf
def rts (F : Fd) (sg : List Nat) (i : Nat) : List Nat := (List.range' 1 (i - 1)).filter fun i => ev F i sg == 0
theorem rts_step (F : Fd) (sg : List Nat) {i : Nat} (h : 1 ≤ i) : rts F sg (i + 1) = if ev F i sg = 0 then rts F sg i ++ [i] else rts F sg i := by
  unfold rts
  rw [show i + 1 - 1 = (i - 1) + 1 by omega, List.range'_concat, List.filter_append, show 1 + 1 * (i - 1) = i by omega]
  by_cases hz : ev F i sg = 0
  · rw [if_pos hz, List.filter_cons, if_pos (by rw [hz]; rfl), List.filter_nil]
  · rw [if_neg hz, List.filter_cons, if_neg (by rw [beq_iff_eq]; exact hz), List.filter_nil, List.append_nil]
theorem rts_pre (F : Fd) (sg : List Nat) {i : Nat} (h1 : 1 ≤ i) (h : i ≤ F.s) : ∃ r, rts F sg F.s = rts F sg i ++ r := by
  refine ⟨(List.range' (1 + (i - 1)) (F.s - i)).filter fun i => ev F i sg == 0, ?_⟩
  unfold rts
  have e := List.range'_append (s := 1) (m := i - 1) (n := F.s - i) (step := 1)
  rw [Nat.one_mul, show i - 1 + (F.s - i) = F.s - 1 by omega] at e
  rw [← List.filter_append, e]
theorem locs_two {F : Fd} {sg : List Nat} (h : sg.length = 2) : locs F sg = some [sg.getD 0 0] := by unfold locs; rw [if_pos h]
theorem locs_all {F : Fd} {sg : List Nat} {i n : Nat} (h : sg.length = n + 1) (hn : n ≠ 1) (h1 : 1 ≤ i) (hi : i ≤ F.s) (hl : (rts F sg i).length = n) : locs F sg = some ((rts F sg i).map (inv F)) := by
  obtain ⟨r, hr⟩ := rts_pre F sg h1 hi
  unfold locs
  have e : ((List.range' 1 (F.s - 1)).filter fun i => ev F i sg == 0) = rts F sg F.s := rfl
  rw [if_neg (by omega), e, hr, show sg.length - 1 = n by omega, ← hl, List.take_left, if_pos rfl]
theorem locs_less {F : Fd} {sg : List Nat} {n : Nat} (h : sg.length = n + 1) (hn : n ≠ 1) (hl : (rts F sg F.s).length < n) : locs F sg = none := by
  unfold locs
  have e : ((List.range' 1 (F.s - 1)).filter fun i => ev F i sg == 0) = rts F sg F.s := rfl
  rw [if_neg (by omega), e, List.take_of_length_le (by omega), if_neg (by omega)]
end Gf
theorem set_room (l : List Nat) (k x : Nat) : (l ++ List.replicate (k + 1) 0).set l.length x = (l ++ [x]) ++ List.replicate k 0 := by
  rw [List.set_append_right _ _ (Nat.le_refl _), Nat.sub_self, List.replicate_succ, List.set_cons_zero, List.append_assoc]; rfl
theorem getSizeF_any (g : Nat) (F : Gf.Fd) (w : World) (hf : FieldAt w g F) :
    Calls Tryz.prog 126 #[.pointer (some ⟨g, 0, none⟩)] w fun e w' => e = .returned (.int .i64 F.s) ∧ w' = w := by
  obtain ⟨ge, gl, qz, qo, ce, cl, h⟩ := hf
  have c4 : w.cell? ⟨g, 4, none⟩ = some (.int .i64 F.s) := by rw [h.blk.cell]; rfl
  clear h
  go_enter Tryz.func126, Tryz.ntmps126
  go_wp2
  go_ret
  exact ⟨rfl, rfl⟩
/-- What is handed back: the places, or none. -/
def Located (w : World) (o : Option (List Nat)) (e : Ending) (w' : World) : Prop :=
  (o = none → ∃ t u, e = .returned (.tuple #[.slice none 0 0, .iface t u])) ∧ (∀ L, o = some L → ∃ b, w.heap.size ≤ b ∧ e = .returned (.tuple #[.slice (some ⟨b, 0, none⟩) L.length L.length, .nilIface]) ∧ Blk w' b 3 (nv L).toArray) ∧ Below w.heap.size w w'

set_option maxRecDepth 100000 in
set_option maxHeartbeats 8000000 in
theorem findLocs_any (F : Gf.Fd) (hF : Gf.Ok F) (h12 : F.m ≤ 12) (gd g q : Nat) (sg : List Nat) (w : World) (hd : Blk w gd 162 #[.pointer (some ⟨g, 0, none⟩)]) (hf : FieldAt w g F)
    (hp : PolyAt w q g sg) (hx : ∀ x ∈ sg, x < F.s) (hn : 0 < sg.length) (h4 : sg.length ≤ 8192) :
    Calls Tryz.prog 103 #[.pointer (some ⟨gd, 0, none⟩), .pointer (some ⟨q, 0, none⟩)] w (Located w (Gf.locs F sg)) := by
  have hs12 := s_le F h12
  have hs4 := Gf.s_ge4 hF
  have d0 : w.cell? ⟨gd, 0, none⟩ = some (.pointer (some ⟨g, 0, none⟩)) := by rw [hd.cell]; rfl
  clear hd
  obtain ⟨n, hn1⟩ : ∃ n, sg.length = n + 1 := ⟨sg.length - 1, by omega⟩
  have hn8 : n ≤ 8191 := by omega
  have HN := Lib.hid hn1; clear hn1 h4
  have HF := Lib.hid hf; clear hf
  have HP := Lib.hid hp; clear hp
  have HX := Lib.hid hx; clear hx
  by_cases h1 : n = 1
  · have e1 : sg.getD (sg.length - 1 - 1) 0 = sg.getD 0 0 := by rw [HN.out, h1]
    have hL := Gf.locs_two (F := F) (sg := sg) (by rw [HN.out, h1])
    rw [hL]
    have hlt : 1 < sg.length := by rw [HN.out]; omega
    have HL := Lib.hid (And.intro e1 hlt); clear e1 hL hlt
    obtain ⟨X, hX⟩ : ∃ X, X = sg.getD 0 0 := ⟨_, rfl⟩
    rw [← hX] at HL ⊢
    clear hX
    subst h1
    go_enter Tryz.func103, Tryz.ntmps103
    go_wp2_with fail
    refine (degree_any q g sg 1 w HP.out HN.out).mono ?_
    rintro e w1 ⟨rfl, rfl⟩
    go_wp2_with fail
    refine (coefficient_any q g sg 1 w1 HP.out HL.out.2).mono ?_
    rintro e w2 ⟨rfl, hb2⟩
    rw [HL.out.1]
    go_wp2
    go_ret2
    refine ⟨fun h9 => (by cases h9), fun L h9 => ?_, bal hb2 _⟩
    injection h9 with h9
    subst h9
    exact ⟨w2.heap.size, hb2.size, rfl, Blk.fresh w2 3 (nv [X]).toArray⟩
  · have e1 : ((n : Int) == 1) = false := by simp; omega
    have hmk := fun W => mk_ints n W (by omega)
    go_enter Tryz.func103, Tryz.ntmps103
    go_wp2_with fail
    refine (degree_any q g sg n w HP.out HN.out).mono ?_
    rintro e w1 ⟨rfl, rfl⟩
    go_wp2
    clear hmk e1
    have HS0 := Lib.hid (Blk.fresh w1 3 (nv (List.replicate n 0)).toArray)
    go_loopw [8, 9] (fun v8 v9 wr => ∃ (i c k : Nat), 1 ≤ i ∧ i ≤ F.s ∧ c + k = n ∧ v8 = .int .i64 c ∧ v9 = .int .i64 i ∧ Hid ((Gf.rts F sg i).length = c) ∧ Hid (Blk wr w1.heap.size 3 (nv ((Gf.rts F sg i).map (Gf.inv F) ++ List.replicate k 0)).toArray) ∧ Hid (Below w1.heap.size w1 wr)) (fun _ v9 _ => F.s - (intOf v9).toNat)
    case atStart => exact ⟨1, 0, n, Nat.le_refl _, by omega, by omega, rfl, rfl, Lib.hid rfl, HS0, Lib.hid (bal (brf w1) _)⟩
    case round =>
      clear HS0
      obtain ⟨i, c, k, hi1, his, hck, rfl, rfl, HC, HB, HW⟩ := hrel
      have dr : wr.cell? ⟨gd, 0, none⟩ = some (.pointer (some ⟨g, 0, none⟩)) := cell_up d0 HW.out
      have HFr := Lib.hid (HF.out.up HW.out)
      have HPr := Lib.hid (HP.out.up HW.out)
      by_cases hlt : i < F.s
      · by_cases hcn : c < n
        · obtain ⟨k', rfl⟩ : ∃ k', k = k' + 1 := ⟨k - 1, by omega⟩
          go_wp2_with fail
          refine (getSizeF_any g F wr HFr.out).mono ?_
          rintro e wr' ⟨rfl, rfl⟩
          go_wp2_with fail
          refine (evaluate_any F hF h12 g q i sg _ HFr.out HPr.out HX.out hlt (by omega)).mono ?_
          rintro e w3 ⟨rfl, hb3⟩
          have hst := Gf.rts_step F sg hi1
          have HW3 := Lib.hid (bup HW.out hb3)
          have HB3 := Lib.hid (HB.out.up hb3)
          have HF3 := Lib.hid (HFr.out.up hb3)
          have d3 : w3.cell? ⟨gd, 0, none⟩ = some (.pointer (some ⟨g, 0, none⟩)) := cell_up dr hb3
          clear dr hb3 HB HW HFr HPr
          by_cases hz : Gf.ev F i sg = 0
          · rw [if_pos hz] at hst
            rw [hz]
            have HST := Lib.hid hst; clear hst hz
            go_wp2_with fail
            refine (inverse_any g F hF h12 i (by omega) hlt _ HF3.out).mono ?_
            rintro e w4 ⟨rfl, hb4⟩
            have HW4 := Lib.hid (bup HW3.out hb4)
            have hB4 := HB3.out.up hb4
            have hlen : ((Gf.rts F sg i).map (Gf.inv F) ++ List.replicate (k' + 1) 0).length = n := by rw [List.length_append, List.length_map, HC.out, List.length_replicate]; exact hck
            have cO : ∃ old : Nat, w4.cell? ⟨w1.heap.size, c, none⟩ = some (.int .i64 (old : Int)) := ⟨_, by rw [hB4.cell]; exact nv_cell _ _ (by rw [hlen]; exact hcn)⟩
            obtain ⟨old, cO⟩ := cO
            have fO : w4.frozen? ⟨w1.heap.size, c, none⟩ = false := hB4.frozen _
            have hput := hB4.put c (.int .i64 ((Gf.inv F i : Nat) : Int))
            have hset := set_room ((Gf.rts F sg i).map (Gf.inv F)) k' (Gf.inv F i)
            rw [List.length_map, HC.out] at hset
            have hap : (Gf.rts F sg (i + 1)).map (Gf.inv F) = (Gf.rts F sg i).map (Gf.inv F) ++ [Gf.inv F i] := by rw [HST.out, List.map_append]; rfl
            rw [nv_set, hset, ← hap] at hput
            have HPut := Lib.hid hput
            have HCn : Hid ((Gf.rts F sg (i + 1)).length = c + 1) := Lib.hid (by rw [HST.out, List.length_append, HC.out]; rfl)
            have HW5 := Lib.hid (HW4.out.setCell (p := ⟨w1.heap.size, c, none⟩) (Nat.le_refl _) (.int .i64 ((Gf.inv F i : Nat) : Int)))
            clear hput hset hap hB4 hb4 HB3 hlen
            generalize Gf.inv F i = iv at *
            go_wp2
            go_roundw
            case rel => exact ⟨i + 1, c + 1, k', by omega, by omega, by omega, by go_num, by go_num, HCn, HPut, HW5⟩
            case measure => simp [intOf]; omega
          · rw [if_neg hz] at hst
            have ez : (((Gf.ev F i sg : Nat) : Int) == 0) = false := by simp; omega
            have HST := Lib.hid hst; clear hst
            generalize Gf.ev F i sg = ev at *
            go_wp2
            go_roundw
            case rel => exact ⟨i + 1, c, k' + 1, by omega, by omega, by omega, rfl, by go_num, Lib.hid (by rw [HST.out]; exact HC.out), Lib.hid (by rw [HST.out]; exact HB3.out), HW3⟩
            case measure => simp [intOf]; omega
        · obtain rfl : c = n := by omega
          obtain rfl : k = 0 := by omega
          have HL := Lib.hid (Gf.locs_all HN.out h1 hi1 his HC.out)
          have HBF : Hid (Blk wr w1.heap.size 3 (nv ((Gf.rts F sg i).map (Gf.inv F))).toArray) := Lib.hid (by
            have h9 := HB.out
            rw [List.replicate_zero, List.append_nil] at h9
            exact h9)
          clear HB
          go_wp2_with fail
          refine (getSizeF_any g F wr HFr.out).mono ?_
          rintro e wr ⟨rfl, rfl⟩
          go_wp2
          go_ret2
          refine ⟨fun h9 => ?_, fun L h9 => ?_, HW.out⟩
          · rw [HL.out] at h9; cases h9
          · rw [HL.out] at h9
            injection h9 with h9
            subst h9
            refine ⟨w1.heap.size, Nat.le_refl _, ?_, HBF.out⟩
            show Ending.returned (.tuple #[.slice (some ⟨w1.heap.size, 0, none⟩) c c, .nilIface]) = _
            rw [List.length_map, HC.out]
      · obtain rfl : i = F.s := by omega
        go_wp2_with fail
        refine (getSizeF_any g F wr HFr.out).mono ?_
        rintro e wr ⟨rfl, rfl⟩
        by_cases hcn : c < n
        · have HL := Lib.hid (Gf.locs_less HN.out h1 (by rw [HC.out]; exact hcn))
          have ec : ((c : Int) == (n : Int)) = false := by simp; omega
          go_wp2_with fail
          refine (newExc_any _ _).mono ?_
          rintro e w3 ⟨⟨t, u, rfl⟩, rfl⟩
          go_wp2
          go_ret2
          refine ⟨fun h9 => ⟨t, u, rfl⟩, fun L h9 => ?_, HW.out⟩
          rw [HL.out] at h9; cases h9
        · obtain rfl : c = n := by omega
          obtain rfl : k = 0 := by omega
          have HL := Lib.hid (Gf.locs_all HN.out h1 hi1 his HC.out)
          have HBF : Hid (Blk wr w1.heap.size 3 (nv ((Gf.rts F sg F.s).map (Gf.inv F))).toArray) := Lib.hid (by
            have h9 := HB.out
            rw [List.replicate_zero, List.append_nil] at h9
            exact h9)
          clear HB
          go_wp2
          go_ret2
          refine ⟨fun h9 => ?_, fun L h9 => ?_, HW.out⟩
          · rw [HL.out] at h9; cases h9
          · rw [HL.out] at h9
            injection h9 with h9
            subst h9
            refine ⟨w1.heap.size, Nat.le_refl _, ?_, HBF.out⟩
            show Ending.returned (.tuple #[.slice (some ⟨w1.heap.size, 0, none⟩) c c, .nilIface]) = _
            rw [List.length_map, HC.out]
end Go.Proofs.YtopfdmmimgnciaaGreatDoor
