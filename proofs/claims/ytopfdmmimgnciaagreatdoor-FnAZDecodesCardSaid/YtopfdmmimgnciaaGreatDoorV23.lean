/-
  WALKS: Decode, of any words.
-/
import Derived.Test.YtopfdmmimgnciaaGreatDoorV22
namespace Go.Proofs.YtopfdmmimgnciaaGreatDoor
open Go.RowKit

namespace Gf
theorem locs_facts {F : Fd} (h : Ok F) {sg L : List Nat} (hl : locs F sg = some L) (ht : Tidy sg) (hx : ∀ x ∈ sg, x < F.s) : Ls F L ∧ (∀ X ∈ L, 0 < X) ∧ L.Nodup := by
  unfold locs at hl
  split at hl
  · rename_i h2
    injection hl with hl
    subst hl
    have hp : 0 < sg.length := by omega
    refine ⟨fun x hm => ?_, fun x hm => ?_, by simp⟩
    · rw [List.mem_singleton.1 hm, getD_lt _ _ _ hp]; exact hx _ (List.getElem_mem hp)
    · rw [List.mem_singleton.1 hm]; exact Nat.pos_of_ne_zero (tidy_lead ht (by omega))
  · split at hl
    · injection hl with hl
      subst hl
      have hr : ∀ x ∈ ((List.range' 1 (F.s - 1)).filter fun i => ev F i sg == 0).take (sg.length - 1), 1 ≤ x ∧ x < F.s := fun x hm => by
        have h1 := (List.mem_filter.1 (List.mem_of_mem_take hm)).1
        obtain ⟨k, hk, he⟩ := List.mem_range'.1 h1
        omega
      have hn : (((List.range' 1 (F.s - 1)).filter fun i => ev F i sg == 0).take (sg.length - 1)).Nodup := List.Pairwise.sublist (List.take_sublist _ _) (List.Pairwise.filter _ List.nodup_range')
      refine ⟨fun x hm => ?_, fun x hm => ?_, nodup_inv h (fun x hm => (hr x hm).2) (fun x hm => (hr x hm).1) hn⟩
      · obtain ⟨z, _, rfl⟩ := List.mem_map.1 hm; exact inv_lt h z
      · obtain ⟨z, _, rfl⟩ := List.mem_map.1 hm; exact inv_pos h z
    · cases hl
theorem locs_len {F : Fd} {sg L : List Nat} (hl : locs F sg = some L) (hn : 0 < sg.length) : L.length ≤ sg.length := by
  unfold locs at hl
  split at hl
  · injection hl with hl
    subst hl
    exact hn
  · split at hl
    · injection hl with hl
      subst hl
      rw [List.length_map, List.length_take]
      omega
    · cases hl
theorem rsDec_t0 {F : Fd} {R : Nat} {xs : List Nat} (h1 : ¬ (synL F R xs).all (· == 0) = true) (h2 : t0 (eu0 F R xs) = 0) : rsDec F R xs = none := by
  unfold rsDec; rw [if_neg h1, if_pos h2]
theorem rsDec_none {F : Fd} {R : Nat} {xs : List Nat} (h1 : ¬ (synL F R xs).all (· == 0) = true) (h2 : ¬ t0 (eu0 F R xs) = 0) (h3 : locs F (sigO F (eu0 F R xs)) = none) : rsDec F R xs = none := by
  unfold rsDec; rw [if_neg h1, if_neg h2, h3]
theorem rsDec_some {F : Fd} {R : Nat} {xs L : List Nat} (h1 : ¬ (synL F R xs).all (· == 0) = true) (h2 : ¬ t0 (eu0 F R xs) = 0) (h3 : locs F (sigO F (eu0 F R xs)) = some L) : rsDec F R xs = fixW F xs.length (L.map fun X => (X, mag F (omO F (eu0 F R xs)) L X)) xs := by
  unfold rsDec; rw [if_neg h1, if_neg h2, h3]
theorem synL_succ (F : Fd) (i : Nat) (xs : List Nat) : synL F (i + 1) xs = synL F i xs ++ [ev F (ex F (i + F.b)) xs] := by
  unfold synL
  rw [List.range_succ, List.map_append]; rfl
theorem set_syn (k x : Nat) (l : List Nat) : (List.replicate (k + 1) 0 ++ l).set k x = List.replicate k 0 ++ x :: l := by
  rw [List.replicate_succ', List.append_assoc]
  have e : k = (List.replicate k 0).length := (List.length_replicate ..).symm
  conv => lhs; rw [List.set_append_right _ _ (by rw [List.length_replicate]; exact Nat.le_refl k), List.length_replicate, Nat.sub_self]
  rfl
theorem fixW_drop (F : Fd) (n i : Nat) (L : List Nat) (f : Nat → Nat) (ws : List Nat) (hi : i < L.length) : fixW F n ((L.map fun X => (X, f X)).drop i) ws = if n ≤ lg F L[i] then none else fixW F n ((L.map fun X => (X, f X)).drop (i + 1)) (ws.set (n - 1 - lg F L[i]) (ws.getD (n - 1 - lg F L[i]) 0 ^^^ f L[i])) := by
  rw [List.drop_eq_getElem_cons (by rw [List.length_map]; exact hi), List.getElem_map]; rfl
end Gf
theorem wrapExc_any (t : TypeId) (u : Value) (w : World) : Calls Tryz.prog 97 #[.iface t u] w fun e w' => (∃ t u, e = .returned (.iface t u)) ∧ w' = w := by
  go_enter Tryz.func97, Tryz.ntmps97
  go_wp2
  go_ret
  exact ⟨⟨_, _, rfl⟩, rfl⟩
/-- What Decode does: it mends the words where they lie, or tells that it cannot. -/
def Decoded (v0 : World) (rb : Nat) (o : Option (List Nat)) (e : Ending) (w' : World) : Prop :=
  (o = none → ∃ t u, e = .returned (.iface t u)) ∧ (∀ ws, o = some ws → e = .returned .nilIface ∧ Blk w' rb 3 (nv ws).toArray) ∧ Below v0.heap.size v0 w'

set_option maxRecDepth 100000 in
set_option maxHeartbeats 8000000 in
theorem decode_any (F : Gf.Fd) (hF : Gf.Ok F) (h12 : F.m ≤ 12) (gd g rb n R : Nat) (xs : List Nat) (v0 w : World) (hd : Blk w gd 162 #[.pointer (some ⟨g, 0, none⟩)]) (hf : FieldAt w g F) (hl : LogsOff w g F rb)
    (hB : Below v0.heap.size v0 w) (hr : Blk w rb 3 (nv xs).toArray) (hrb : v0.heap.size ≤ rb) (hx : ∀ x ∈ xs, x < F.s) (hn : xs.length = n) (hn0 : 0 < n) (hn4 : n ≤ 8192) (hR : 1 ≤ R) (hRs : R + F.b ≤ F.s) :
    Calls Tryz.prog 75 #[.pointer (some ⟨gd, 0, none⟩), .slice (some ⟨rb, 0, none⟩) n n, .int .i64 R] w (Decoded v0 rb (Gf.rsDec F R xs)) := by
  have hs12 := s_le F h12
  have hxne : xs ≠ [] := by rintro rfl; simp at hn; omega
  have hgr : gd ≠ rb := by
    rintro rfl
    unfold Blk at hd hr
    rw [hd] at hr
    injection hr with h1
    injection h1 with _ h2
    exact absurd h2 (by decide)
  have d0 : w.cell? ⟨gd, 0, none⟩ = some (.pointer (some ⟨g, 0, none⟩)) := by rw [hd.cell]; rfl
  have htl : ∀ x ∈ tidy xs, x < F.s := Gf.tidy_lt hx
  have htn : 0 < (tidy xs).length := by
    rcases hq : tidy xs with _ | ⟨x, t⟩
    · exact absurd hq (tidy_ne _ hxne)
    · simp
  have hrl := hr.lt
  have HF := Lib.hid hf; clear hf
  have HD := Lib.hid (And.intro hd hgr); clear hd hgr
  have HLG := Lib.hid hl; clear hl
  have HB := Lib.hid hB; clear hB
  have HR := Lib.hid hr; clear hr
  have HX := Lib.hid (And.intro hx (And.intro hn hxne)); clear hx hn hxne
  have HT := Lib.hid htl; clear htl
  have hmk := fun W => mk_ints R W (by omega)
  go_enter Tryz.func75, Tryz.ntmps75
  go_wp2_with fail
  refine (newPoly_any g _ xs _ (RdT.of_blk HR.out (by rw [nv_len, HX.out.2.1]) (by rw [nv_len, HX.out.2.1]; omega) (by unfold maxLen; omega)) HX.out.2.2).mono ?_
  rintro e w1 ⟨q, rfl, hq, hb1⟩
  have HQ := Lib.hid hq; clear hq
  have HB1 := Lib.hid hb1; clear hb1
  go_wp2_with fail
  clear hmk
  have HS0 := Lib.hid (Blk.fresh w1 3 (nv (List.replicate R 0)).toArray)
  go_loopw [10, 11] (fun bv iv wr => ∃ (i : Nat) (b : Bool), i ≤ R ∧ bv = .bool b ∧ iv = .int .i64 i ∧ Hid (b = (Gf.synL F i xs).all (· == 0)) ∧ Hid (Blk wr w1.heap.size 3 (nv (List.replicate (R - i) 0 ++ (Gf.synL F i xs).reverse)).toArray) ∧ Hid (Below w1.heap.size w1 wr)) (fun _ iv _ => R - (intOf iv).toNat)
  case atStart => exact ⟨0, true, Nat.zero_le _, rfl, rfl, Lib.hid rfl, Lib.hid (by show Blk _ _ _ (nv (List.replicate R 0 ++ [])).toArray; rw [List.append_nil]; exact HS0.out), Lib.hid (bal (brf w1) _)⟩
  case round =>
    clear HS0
    obtain ⟨i, b, hi, rfl, rfl, HBv, HS, HW⟩ := hrel
    have dr : wr.cell? ⟨gd, 0, none⟩ = some (.pointer (some ⟨g, 0, none⟩)) := cell_up (cell_up d0 HB1.out) HW.out
    have HFr := Lib.hid ((HF.out.up HB1.out).up HW.out)
    by_cases hlt : i < R
    · have HQr := Lib.hid (HQ.out.up HW.out)
      have hsi := Gf.synL_succ F i xs
      have hev : Gf.ev F (Gf.ex F (i + F.b)) (tidy xs) = Gf.ev F (Gf.ex F (i + F.b)) xs := Gf.ev_tidy F _ xs HX.out.2.2
      have hevc := fun W hf hp => evaluate_any F hF h12 g q (Gf.ex F (i + F.b)) (tidy xs) W hf hp HT.out (Gf.ex_lt hF _) htn
      rw [hev] at hevc
      obtain ⟨S, hS⟩ : ∃ S, S = Gf.ev F (Gf.ex F (i + F.b)) xs := ⟨_, rfl⟩
      rw [← hS] at hsi hevc
      have HEV := Lib.hid hevc
      have HSI := Lib.hid hsi
      clear hevc hsi hev hS
      obtain ⟨k, hk⟩ : ∃ k, R - i = k + 1 := ⟨R - i - 1, by omega⟩
      have hkk : R - (i + 1) = k := by omega
      have hset := Gf.set_syn k S (Gf.synL F i xs).reverse
      have hrev : (Gf.synL F (i + 1) xs).reverse = S :: (Gf.synL F i xs).reverse := by rw [HSI.out, List.reverse_append]; rfl
      rw [← hrev] at hset
      have HSET := Lib.hid hset; clear hset hrev
      have HLEN : Hid ((List.replicate (R - i) 0 ++ (Gf.synL F i xs).reverse).length = R) := Lib.hid (by rw [List.length_append, List.length_replicate, List.length_reverse, Gf.syn_len]; omega)
      have HK := Lib.hid (And.intro hk hkk); clear hkk
      obtain ⟨s1, _, s3, s4⟩ := sum_ix i F.b F.s (by omega) (by omega)
      have s5 : (i : Int) + (F.b : Int) = ((i + F.b : Nat) : Int) := by omega
      have HS5 := Lib.hid s5; clear s5
      go_wp2_with fail
      refine Can.wp_region_can (fun w' => w'.cell? ⟨gd, 0, none⟩ = some (.pointer (some ⟨g, 0, none⟩)) ∧ Below wr.heap.size wr w') 999 [0, 1, 2, 3, 4, 5, 6, 7, 8, 9, 10, 11, 12, 13, 14] (by kernel_rfl) (by kernel_rfl) (fun _ _ d _ _ h => by cases d <;> exact h) ⟨dr, bdr (brf _)⟩ (fun hHeld => ?_)
      repeat (refine Can.can_pure (v := ?_) rfl rfl (Or.inl ⟨by rfl, ?_⟩) ?_; rotate_left; (focus ((intro w hSw); (try dsimp only at hSw); go_simp; (try with_reducible rfl))); (try simp only [Act.put, List.getElem_toArray, List.getElem_cons_succ, List.getElem_cons_zero, List.setIfInBounds_toArray, List.set_cons_zero, List.set_cons_succ]))
      refine Can.can_eff rfl rfl (by rfl) (fun K hK => ?_)
      go_simp
      refine (getBase_any g F _ (HFr.out.up hHeld.2)).mono ?_
      rintro e w2 ⟨rfl, rfl⟩
      refine hK.out _ _ hHeld (fun hHeld1 => ?_)
      clear hK K
      (try simp only [Act.put, List.getElem_toArray, List.getElem_cons_succ, List.getElem_cons_zero, List.setIfInBounds_toArray, List.set_cons_zero, List.set_cons_succ])
      repeat (refine Can.can_pure (v := ?_) rfl rfl (Or.inl ⟨by rfl, ?_⟩) ?_; rotate_left; (focus ((intro w hSw); (try dsimp only at hSw); go_simp; (try with_reducible rfl))); (try simp only [Act.put, List.getElem_toArray, List.getElem_cons_succ, List.getElem_cons_zero, List.setIfInBounds_toArray, List.set_cons_zero, List.set_cons_succ]))
      rw [HS5.out]
      refine Can.can_eff rfl rfl (by rfl) (fun K hK => ?_)
      go_simp
      refine (exp_any g F h12 (i + F.b) (by omega) _ (HFr.out.up hHeld1.2)).mono ?_
      rintro e w2 ⟨rfl, rfl⟩
      refine hK.out _ _ hHeld1 (fun hHeld2 => ?_)
      clear hK K
      (try simp only [Act.put, List.getElem_toArray, List.getElem_cons_succ, List.getElem_cons_zero, List.setIfInBounds_toArray, List.set_cons_zero, List.set_cons_succ])
      repeat (refine Can.can_pure (v := ?_) rfl rfl (Or.inl ⟨by rfl, ?_⟩) ?_; rotate_left; (focus ((intro w hSw); (try dsimp only at hSw); go_simp; (try with_reducible rfl))); (try simp only [Act.put, List.getElem_toArray, List.getElem_cons_succ, List.getElem_cons_zero, List.setIfInBounds_toArray, List.set_cons_zero, List.set_cons_succ]))
      refine Can.can_eff rfl rfl (by rfl) (fun K hK => ?_)
      go_simp
      refine (HEV.out _ (HFr.out.up hHeld2.2) (HQr.out.up hHeld2.2)).mono ?_
      rintro e w2 ⟨rfl, hb2⟩
      refine hK.out _ _ ⟨cell_up hHeld2.1 hb2, bup hHeld2.2 hb2⟩ (fun hHeld3 => ?_)
      clear hK K
      (try simp only [Act.put, List.getElem_toArray, List.getElem_cons_succ, List.getElem_cons_zero, List.setIfInBounds_toArray, List.set_cons_zero, List.set_cons_succ])
      repeat (refine Can.can_pure (v := ?_) rfl rfl (Or.inl ⟨by rfl, ?_⟩) ?_; rotate_left; (focus ((intro w hSw); (try dsimp only at hSw); go_simp; (try with_reducible rfl))); (try simp only [Act.put, List.getElem_toArray, List.getElem_cons_succ, List.getElem_cons_zero, List.setIfInBounds_toArray, List.set_cons_zero, List.set_cons_succ]))
      refine Can.can_done ?_
      have HW2 := Lib.hid (bup HW.out hHeld3.2)
      have HS2 := Lib.hid (HS.out.up hHeld3.2)
      clear hHeld hHeld1 hHeld2 hHeld3 hb2 s1 s3 s4 dr HS HW
      have i1 : ((R : Int) - 1 - (i : Int)).toNat = k := by omega
      have i2 : (0 : Int) ≤ (R : Int) - 1 - (i : Int) := by omega
      have i3 : (R : Int) - 1 - (i : Int) < (R : Int) := by omega
      have cO : ∃ old : Nat, w2.cell? ⟨w1.heap.size, k, none⟩ = some (.int .i64 (old : Int)) := ⟨_, by rw [HS2.out.cell]; exact nv_cell _ _ (by rw [HLEN.out]; omega)⟩
      obtain ⟨old, cO⟩ := cO
      have fO : w2.frozen? ⟨w1.heap.size, k, none⟩ = false := HS2.out.frozen _
      have hput := HS2.out.put k (.int .i64 ((S : Nat) : Int))
      rw [nv_set, HK.out.1, HSET.out] at hput
      have HPUT := Lib.hid hput
      have HW3 := Lib.hid (HW2.out.setCell (p := ⟨w1.heap.size, k, none⟩) (Nat.le_refl _) (.int .i64 ((S : Nat) : Int)))
      clear HS2 HW2 hput
      rcases Nat.eq_zero_or_pos S with hS0 | hS0
      · subst hS0
        have HBN : Hid (b = (Gf.synL F (i + 1) xs).all (· == 0)) := Lib.hid (by rw [HSI.out, List.all_append, ← HBv.out]; simp)
        go_wp2
        go_roundw
        case rel => exact ⟨i + 1, b, by omega, rfl, by go_num, HBN, Lib.hid (by rw [HK.out.2]; exact HPUT.out), HW3⟩
        case measure => simp [intOf]; omega
      · have ez : ((S : Int) == 0) = false := by simp; omega
        have HBN : Hid (false = (Gf.synL F (i + 1) xs).all (· == 0)) := Lib.hid (by rw [HSI.out, List.all_append]; simp; omega)
        go_wp2
        go_roundw
        case rel => exact ⟨i + 1, false, by omega, rfl, by go_num, HBN, Lib.hid (by rw [HK.out.2]; exact HPUT.out), HW3⟩
        case measure => simp [intOf]; omega
    · obtain rfl : i = R := by omega
      have hi1 : 1 ≤ i := by omega
      have HRw := Lib.hid ((HR.out.up HB1.out).up HW.out)
      have HBw := Lib.hid (below_up HB.out (bup HB1.out HW.out) (by have := HB.out.size; omega))
      cases b
      · have HRS := Lib.hid (Gf.eu_end hF hi1 HX.out.1)
        have HST := Lib.hid (Gf.eu_start hF hi1 HX.out.1)
        have HSL := Lib.hid (Gf.syn_lt hF i HX.out.1)
        have hall : ¬ (Gf.synL F i xs).all (· == 0) = true := by rw [← HBv.out]; decide
        have HR1 := Lib.hid (fun h2 => Gf.rsDec_t0 hall h2)
        have HR2 := Lib.hid (fun h2 h3 => Gf.rsDec_none hall h2 h3)
        have HR3 := Lib.hid (fun L h2 h3 => Gf.rsDec_some (L := L) hall h2 h3)
        clear hall
        have hE : Gf.euc F i i ⟨1 :: List.replicate i 0, tidy (Gf.synL F i xs).reverse, [0], [1]⟩ = Gf.eu0 F i xs := rfl
        generalize Gf.eu0 F i xs = E at *
        have HEE := Lib.hid hE; clear hE
        have hsne : (Gf.synL F i xs).reverse ≠ [] := fun hc => by
          have := congrArg List.length hc
          rw [List.length_reverse, Gf.syn_len, List.length_nil] at this
          omega
        have hslen : ((Gf.synL F i xs).reverse).length = i := by rw [List.length_reverse, Gf.syn_len]
        have HSN := Lib.hid (And.intro hsne hslen); clear hsne hslen
        have HSS : Hid (Blk wr w1.heap.size 3 (nv (Gf.synL F i xs).reverse).toArray) := Lib.hid (by
          have h9 := HS.out
          rw [Nat.sub_self, List.replicate_zero, List.nil_append] at h9
          exact h9)
        clear HS
        have hdw : Hid (Blk wr gd 162 #[.pointer (some ⟨g, 0, none⟩)]) := Lib.hid ((HD.out.1.up HB1.out).up HW.out)
        go_wp2_with fail
        refine (newPoly_any g _ (Gf.synL F i xs).reverse _ (RdT.of_blk HSS.out (by rw [nv_len, HSN.out.2]) (by rw [nv_len, HSN.out.2]; omega) (by unfold maxLen; omega)) HSN.out.1).mono ?_
        rintro e w2 ⟨q2, rfl, hq2, hb2⟩
        have HQ2 := Lib.hid hq2; clear hq2
        have d2 : w2.cell? ⟨gd, 0, none⟩ = some (.pointer (some ⟨g, 0, none⟩)) := cell_up dr hb2
        have HB2 := Lib.hid hb2; clear hb2
        go_wp2_with fail
        refine (monomial_any F h12 g i 1 _ (by omega) Nat.one_pos).mono ?_
        rintro e w3 ⟨q3, rfl, hq3, hb3⟩
        have HQ3 := Lib.hid hq3; clear hq3
        have HB3 := Lib.hid (bup HB2.out hb3)
        have HQ23 := Lib.hid (HQ2.out.up hb3); clear hb3
        go_wp2_with fail
        refine (runEuclid_any F hF h12 gd g q3 q2 i (Gf.synL F i xs) _ _ E _ (hdw.out.up HB3.out) (HFr.out.up HB3.out) HQ3.out HQ23.out hi1 (by omega) HSL.out HST.out (by have h9 := tidy_len (Gf.synL F i xs).reverse; rw [HSN.out.2] at h9; exact h9) HEE.out).mono ?_
        rintro e w4 ⟨hz, hnz, hb4⟩
        have HB4 := Lib.hid (bup HB3.out hb4); clear hb4
        by_cases ht0 : Gf.t0 E = 0
        · obtain ⟨t, u, rfl⟩ := hz ht0
          have HDE : Hid (Gf.rsDec F i xs = none) := Lib.hid (HR1.out ht0)
          have HBB := Lib.hid (below_up HBw.out HB4.out (by have := HBw.out.size; omega))
          clear hnz hz
          go_wp2_with fail
          refine (wrapExc_any t u _).mono ?_
          rintro e w5 ⟨⟨t', u', rfl⟩, rfl⟩
          go_wp2
          go_ret
          refine ⟨fun h9 => ⟨t', u', rfl⟩, fun ws h9 => ?_, HBB.out⟩
          rw [HDE.out] at h9; cases h9
        · obtain ⟨qs, qo, rfl, hqs, hqo⟩ := hnz ht0
          have HQS := Lib.hid hqs
          have HQO := Lib.hid hqo
          clear hz hnz hqs hqo
          have htb := Gf.un_rev HRS.out.1.I.lt
          have hrb2 := Gf.un_rev HRS.out.1.I.lr
          have htp := Gf.tidy_pos HRS.out.1.tt
          have hrp := Gf.tidy_pos HRS.out.1.tr
          have hl1 := HRS.out.1.l1
          have hl4 := HRS.out.1.l4
          have ht0l : Gf.t0 E < F.s := by
            unfold Gf.t0
            rw [getD_lt _ _ _ (by omega)]
            exact htb _ (List.getElem_mem _)
          have HSG : Hid ((∀ x ∈ Gf.sigO F E, x < F.s) ∧ Tidy (Gf.sigO F E) ∧ 0 < (Gf.sigO F E).length ∧ (Gf.sigO F E).length ≤ 8192) := Lib.hid ⟨Gf.scaled_lt hF _ htb, Gf.scaled_tidy hF HRS.out.1.tt htb (Gf.inv_pos hF _) (Gf.inv_lt hF _), by unfold Gf.sigO; rw [Gf.scaled_len]; omega, by unfold Gf.sigO; rw [Gf.scaled_len]; omega⟩
          have HOM : Hid ((∀ x ∈ Gf.omO F E, x < F.s) ∧ 0 < (Gf.omO F E).length) := Lib.hid ⟨Gf.scaled_lt hF _ hrb2, by unfold Gf.omO; rw [Gf.scaled_len]; omega⟩
          have HR2b := Lib.hid (HR2.out ht0)
          have HR3b := Lib.hid (fun L h3 => HR3.out L ht0 h3)
          clear htb hrb2 htp hrp hl1 hl4 ht0l HR1 HR2 HR3 ht0
          have d4 : w4.cell? ⟨gd, 0, none⟩ = some (.pointer (some ⟨g, 0, none⟩)) := cell_up dr HB4.out
          go_wp2_with fail
          refine (findLocs_any F hF h12 gd g qs (Gf.sigO F E) _ (hdw.out.up HB4.out) (HFr.out.up HB4.out) HQS.out HSG.out.1 HSG.out.2.2.1 HSG.out.2.2.2).mono ?_
          rintro e w5 ⟨hln, hls, hb5⟩
          have HB5 := Lib.hid (bup HB4.out hb5)
          have HQO5 := Lib.hid (HQO.out.up hb5); clear hb5
          cases hlo : Gf.locs F (Gf.sigO F E) with
          | none =>
            obtain ⟨t, u, rfl⟩ := hln hlo
            have HDE : Hid (Gf.rsDec F i xs = none) := Lib.hid (HR2b.out hlo)
            have HBB := Lib.hid (below_up HBw.out HB5.out (by have := HBw.out.size; omega))
            clear hln hls hlo
            go_wp2_with fail
            refine (wrapExc_any t u _).mono ?_
            rintro e w6 ⟨⟨t', u', rfl⟩, rfl⟩
            go_wp2
            go_ret
            refine ⟨fun h9 => ⟨t', u', rfl⟩, fun ws h9 => ?_, HBB.out⟩
            rw [HDE.out] at h9; cases h9
          | some L =>
            obtain ⟨bL, hbL, rfl, hBL⟩ := hls L hlo
            obtain ⟨f1, f2, f3⟩ := Gf.locs_facts hF hlo HSG.out.2.1 HSG.out.1
            have hR4 := HR3b.out L hlo
            have HFL := Lib.hid (And.intro f1 (And.intro f2 f3))
            have HBL := Lib.hid hBL
            have hLl : L.length ≤ 8192 := Nat.le_trans (Gf.locs_len hlo HSG.out.2.2.1) HSG.out.2.2.2
            clear f1 f2 f3 hBL hln hls hlo HR2b HR3b
            rw [HX.out.2.1] at hR4
            have HR4 := Lib.hid hR4; clear hR4
            have d5 : w5.cell? ⟨gd, 0, none⟩ = some (.pointer (some ⟨g, 0, none⟩)) := cell_up dr HB5.out
            have hw4 : rb < w4.heap.size := by have h8 := HB1.out.size; have h9 := HW.out.size; have h7 := HB4.out.size; omega
            go_wp2_with fail
            refine (findMags_any F hF h12 gd g qo (Gf.omO F E) L _ _ (hdw.out.up HB5.out) (HFr.out.up HB5.out) HQO5.out HOM.out.1 HOM.out.2 (RdT.of_blk HBL.out (by rw [nv_len]) (by rw [nv_len]; exact Nat.le_refl _) (by unfold maxLen; omega)).rd HFL.out.1 HFL.out.2.1 HFL.out.2.2 hLl).mono ?_
            rintro e w6 ⟨bM, hbM, rfl, hBM, hb6⟩
            have HBM := Lib.hid hBM; clear hBM
            have HB6 := Lib.hid (bup HB5.out hb6)
            have HBL6 := Lib.hid (HBL.out.up hb6); clear hb6 HBL
            have hw5 : rb < w5.heap.size := by have h8 := HB1.out.size; have h9 := HW.out.size; have h7 := HB5.out.size; omega
            have hbl2 : bL ≠ rb := by omega
            have hbm2 : bM ≠ rb := by omega
            have HLG6 := Lib.hid (((HLG.out.up HB1.out).up HW.out).up HB6.out)
            have HD6 := Lib.hid (hdw.out.up HB6.out)
            have HR6 := Lib.hid (HRw.out.up HB6.out)
            have HV6 := Lib.hid (below_up HBw.out HB6.out (by have := HBw.out.size; omega))
            have HMG := Lib.hid (fun X => Gf.mag_lt (L := L) hF HOM.out.1 X)
            have HGR := Lib.hid HD.out.2
            generalize Gf.mag F (Gf.omO F E) L = fM at *
            generalize Gf.rsDec F i xs = o at *
            have HXL : Hid (xs.length = n ∧ ∀ x ∈ xs, x < F.s) := Lib.hid ⟨HX.out.2.1, HX.out.1⟩
            clear HSG HOM HQS HQO HQO5 HQ2 HQ3 HQ23 HRS HST HSL HEE HSN HSS HB2 HB3 HB4 HB5 HB6 d2 d4 d5 hdw HRw HBw HFr dr hw4 hw5 hbL hbM HBv hi1 hlt HB1 HW HQ HD HLG HR HT HX HF d0
            rename World => w7
            go_wp2_with fail
            go_loopw [19] (fun v19 wx => ∃ (j : Nat) (ws : List Nat), j ≤ L.length ∧ v19 = .int .i64 j ∧ Hid (ws.length = n ∧ ∀ x ∈ ws, x < F.s) ∧ Hid (o = Gf.fixW F n ((L.map fun X => (X, fM X)).drop j) ws) ∧ Hid (Blk wx rb 3 (nv ws).toArray) ∧
                Hid (Blk wx gd 162 #[.pointer (some ⟨g, 0, none⟩)]) ∧ Hid (LogsOff wx g F rb) ∧ Hid (Blk wx bL 3 (nv L).toArray) ∧ Hid (Blk wx bM 3 (nv (L.map fM)).toArray) ∧ Hid (Below v0.heap.size v0 wx)) (fun v19 _ => L.length - (intOf v19).toNat)
            case atStart => exact ⟨0, xs, Nat.zero_le _, rfl, HXL, HR4, HR6, HD6, HLG6, HBL6, HBM, HV6⟩
            case round =>
              clear HXL HR4 HR6 HD6 HLG6 HBL6 HBM HV6
              obtain ⟨j, ws, hj, rfl, HWS, HO, HR, HD, HLG, HBL, HBM, HV⟩ := hrel
              rename World => wx
              by_cases hjl : j < L.length
              · have hX0 := HFL.out.2.1 _ (List.getElem_mem hjl)
                have hXs := HFL.out.1 _ (List.getElem_mem hjl)
                have hdr := Gf.fixW_drop F n j L fM ws hjl
                rw [← HO.out] at hdr
                have cX : wx.cell? ⟨bL, j, none⟩ = some (.int .i64 ((L[j] : Nat) : Int)) := by rw [HBL.out.cell, nv_cell _ _ hjl]
                have cM : wx.cell? ⟨bM, j, none⟩ = some (.int .i64 ((fM L[j] : Nat) : Int)) := by
                  rw [HBM.out.cell, nv_cell _ _ (by rw [List.length_map]; exact hjl), List.getElem_map]
                have hfm := HMG.out L[j]
                generalize L[j] = X at *
                generalize fM X = Y at *
                have hlgl := (Gf.lg_spec hF hX0 hXs).1
                have hlc := fun W hw => logL_any g rb F hF h12 X hX0 hXs W hw
                generalize Gf.lg F X = lx at *
                have HLC := Lib.hid hlc; clear hlc
                have HDR := Lib.hid hdr; clear hdr
                have dx : wx.cell? ⟨gd, 0, none⟩ = some (.pointer (some ⟨g, 0, none⟩)) := by rw [HD.out.cell]; rfl
                go_wp2_with fail
                refine Can.wp_region_can (fun w' => w'.cell? ⟨gd, 0, none⟩ = some (.pointer (some ⟨g, 0, none⟩)) ∧ w'.cell? ⟨bL, j, none⟩ = some (.int .i64 ((X : Nat) : Int)) ∧ LogsOff w' g F rb) 999 [0, 1, 2, 3, 4, 5, 6, 7, 8, 9, 10, 11, 12, 13] (by kernel_rfl) (by kernel_rfl) (fun _ _ d _ _ h => by cases d <;> exact h) ⟨dx, cX, HLG.out.up (bdr (brf _))⟩ (fun hHeld => ?_)
                repeat (refine Can.can_pure (v := ?_) rfl rfl (Or.inl ⟨by rfl, ?_⟩) ?_; rotate_left; (focus ((intro w hSw); (try dsimp only at hSw); go_simp; (try with_reducible rfl))); (try simp only [Act.put, List.getElem_toArray, List.getElem_cons_succ, List.getElem_cons_zero, List.setIfInBounds_toArray, List.set_cons_zero, List.set_cons_succ]))
                refine Can.can_eff rfl rfl (by rfl) (fun K hK => ?_)
                go_simp
                refine (HLC.out _ hHeld.2.2).mono ?_
                rintro e w8 ⟨rfl, rfl⟩
                refine hK.out _ _ hHeld (fun hHeld1 => ?_)
                clear hK K
                (try simp only [Act.put, List.getElem_toArray, List.getElem_cons_succ, List.getElem_cons_zero, List.setIfInBounds_toArray, List.set_cons_zero, List.set_cons_succ])
                repeat (refine Can.can_pure (v := ?_) rfl rfl (Or.inl ⟨by rfl, ?_⟩) ?_; rotate_left; (focus ((intro w hSw); (try dsimp only at hSw); go_simp; (try with_reducible rfl))); (try simp only [Act.put, List.getElem_toArray, List.getElem_cons_succ, List.getElem_cons_zero, List.setIfInBounds_toArray, List.set_cons_zero, List.set_cons_succ]))
                refine Can.can_done ?_
                clear hHeld hHeld1 cX dx
                by_cases hlx : n ≤ lx
                · have HDE : Hid (o = none) := Lib.hid (by rw [HDR.out, if_pos hlx])
                  have HV2 := Lib.hid (below_drewN HV.out 1)
                  go_wp2_with fail
                  refine (newExc_any _ _).mono ?_
                  rintro e w9 ⟨⟨t, u, rfl⟩, rfl⟩
                  go_wp2
                  go_ret
                  refine ⟨fun h9 => ⟨t, u, rfl⟩, fun ws h9 => ?_, HV2.out⟩
                  rw [HDE.out] at h9; cases h9
                · obtain ⟨p, hp⟩ : ∃ p : Nat, (n : Int) - 1 - (lx : Int) = (p : Int) := ⟨n - 1 - lx, by omega⟩
                  have hpn : n - 1 - lx = p := by omega
                  have hp8 : p < n := by omega
                  have hon := HDR.out
                  rw [if_neg hlx, hpn] at hon
                  have hold : ws.getD p 0 = ws[p]'(by rw [HWS.out.1]; exact hp8) := getD_lt _ _ _ _
                  have holdl : ws[p]'(by rw [HWS.out.1]; exact hp8) < F.s := HWS.out.2 _ (List.getElem_mem _)
                  have c9 : wx.cell? ⟨rb, p, none⟩ = some (.int .i64 ((ws[p]'(by rw [HWS.out.1]; exact hp8) : Nat) : Int)) := by rw [HR.out.cell, nv_cell _ _ (by rw [HWS.out.1]; exact hp8)]
                  rw [hold] at hon
                  generalize ws[p]'(by rw [HWS.out.1]; exact hp8) = old at *
                  have HON := Lib.hid hon; clear hon hold hpn HDR
                  have f9 : wx.frozen? ⟨rb, p, none⟩ = false := HR.out.frozen _
                  have HR9 : Hid (Blk wx.drew.drew rb 3 (nv ws).toArray) := Lib.hid (HR.out.drewN 2)
                  have HD9 : Hid (Blk wx.drew.drew gd 162 #[.pointer (some ⟨g, 0, none⟩)]) := Lib.hid (HD.out.drewN 2)
                  have HLG9 := Lib.hid ((HLG.out.up (bdr (brf _))).up (bdr (brf _)))
                  have HBL9 : Hid (Blk wx.drew.drew bL 3 (nv L).toArray) := Lib.hid (HBL.out.drewN 2)
                  have HBM9 : Hid (Blk wx.drew.drew bM 3 (nv (L.map fM)).toArray) := Lib.hid (HBM.out.drewN 2)
                  have HV9 : Hid (Below v0.heap.size v0 wx.drew.drew) := Lib.hid (below_drewN HV.out 2)
                  go_wp2_with fail
                  refine Can.wp_region_can (fun w' => w'.cell? ⟨rb, p, none⟩ = some (.int .i64 ((old : Nat) : Int)) ∧ w'.cell? ⟨bM, j, none⟩ = some (.int .i64 ((Y : Nat) : Int)) ∧ w'.frozen? ⟨rb, p, none⟩ = false) 12 [0, 1, 2, 3, 4, 5, 6, 7, 8, 9, 10, 11, 12] (by kernel_rfl) (by kernel_rfl) (fun _ _ d _ _ h => by cases d <;> exact h) ⟨c9, cM, f9⟩ (fun hHeld => ?_)
                  repeat (refine Can.can_pure (v := ?_) rfl rfl (Or.inl ⟨by rfl, ?_⟩) ?_; rotate_left; (focus ((intro w hSw); (try dsimp only at hSw); go_simp; (try with_reducible rfl))); (try simp only [Act.put, List.getElem_toArray, List.getElem_cons_succ, List.getElem_cons_zero, List.setIfInBounds_toArray, List.set_cons_zero, List.set_cons_succ]))
                  refine Can.can_eff rfl rfl (by rfl) (fun K hK => ?_)
                  go_simp
                  refine (add_any old Y (by omega) (by omega) _).mono ?_
                  rintro e w9 ⟨rfl, rfl⟩
                  refine hK.out _ _ hHeld (fun hHeld1 => ?_)
                  clear hK K
                  (try simp only [Act.put, List.getElem_toArray, List.getElem_cons_succ, List.getElem_cons_zero, List.setIfInBounds_toArray, List.set_cons_zero, List.set_cons_succ])
                  repeat (refine Can.can_pure (v := ?_) rfl rfl (Or.inl ⟨by rfl, ?_⟩) ?_; rotate_left; (focus ((intro w hSw); (try dsimp only at hSw); go_simp; (try with_reducible rfl))); (try simp only [Act.put, List.getElem_toArray, List.getElem_cons_succ, List.getElem_cons_zero, List.setIfInBounds_toArray, List.set_cons_zero, List.set_cons_succ]))
                  have HC9 := Lib.hid hHeld1
                  clear hHeld hHeld1 c9 cM f9
                  generalize wx.drew.drew = wd at *
                  have c9 := HC9.out.1
                  have f9 := HC9.out.2.2
                  refine Can.can_tail rfl rfl (by rfl) (fun K hK => ?_)
                  go_simp
                  refine hK.out _ _ ?_
                  clear hK K
                  have hput := HR9.out.put p (.int .i64 ((old ^^^ Y : Nat) : Int))
                  rw [nv_set] at hput
                  have hxl : old ^^^ Y < F.s := Gf.xlt holdl hfm
                  have HWN : Hid ((ws.set p (old ^^^ Y)).length = n ∧ ∀ x ∈ ws.set p (old ^^^ Y), x < F.s) := Lib.hid ⟨by rw [List.length_set]; exact HWS.out.1, fun x hm => by
                    rcases List.mem_or_eq_of_mem_set hm with h9 | h9
                    · exact HWS.out.2 x h9
                    · rw [h9]; exact hxl⟩
                  have HPUT := Lib.hid hput
                  have HDN := Lib.hid (HD9.out.far (p := ⟨rb, p, none⟩) HGR.out (.int .i64 ((old ^^^ Y : Nat) : Int)))
                  have HLN := Lib.hid (HLG9.out.far (p := ⟨rb, p, none⟩) rfl (.int .i64 ((old ^^^ Y : Nat) : Int)))
                  have HBLN := Lib.hid (HBL9.out.far (p := ⟨rb, p, none⟩) hbl2 (.int .i64 ((old ^^^ Y : Nat) : Int)))
                  have HBMN := Lib.hid (HBM9.out.far (p := ⟨rb, p, none⟩) hbm2 (.int .i64 ((old ^^^ Y : Nat) : Int)))
                  have HVN := Lib.hid (HV9.out.setCell (p := ⟨rb, p, none⟩) hrb (.int .i64 ((old ^^^ Y : Nat) : Int)))
                  clear c9 f9 hput HC9 HR9 HD9 HLG9 HBL9 HBM9 HV9
                  generalize old ^^^ Y = z at *
                  go_wp2
                  go_roundw
                  case rel => exact ⟨j + 1, ws.set p z, by omega, by go_num, HWN, HON, HPUT, HDN, HLN, HBLN, HBMN, HVN⟩
                  case measure => simp [intOf]; omega
              · obtain rfl : j = L.length := by omega
                have hoe : o = some ws := by
                  rw [HO.out, List.drop_of_length_le (by rw [List.length_map]; exact Nat.le_refl _)]; rfl
                have HOE := Lib.hid hoe; clear hoe
                go_wp2
                go_ret
                refine ⟨fun h9 => ?_, fun ws' h9 => ?_, HV.out⟩
                · rw [HOE.out] at h9; cases h9
                · rw [HOE.out] at h9
                  injection h9 with h9
                  subst h9
                  exact ⟨rfl, HR.out⟩
      · have HDE : Hid (Gf.rsDec F i xs = some xs) := Lib.hid (by unfold Gf.rsDec; rw [if_pos HBv.out.symm])
        go_wp2
        go_ret
        refine ⟨fun h9 => ?_, fun ws h9 => ?_, HBw.out⟩
        · rw [HDE.out] at h9; cases h9
        · rw [HDE.out] at h9
          injection h9 with h9
          subst h9
          exact ⟨rfl, HRw.out⟩
end Go.Proofs.YtopfdmmimgnciaaGreatDoor
