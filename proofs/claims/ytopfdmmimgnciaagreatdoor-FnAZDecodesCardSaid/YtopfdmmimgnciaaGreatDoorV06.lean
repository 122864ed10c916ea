/-
  WALKS: spec.AZWrite.
-/
import Derived.Test.YtopfdmmimgnciaaGreatDoorV05
import Derived.Test.YtopfdmmimgnciaaGreatDoorV02
namespace Go.Proofs.YtopfdmmimgnciaaGreatDoor
open Go.RowKit

def nb (l : List Nat) : List Value := l.map fun n : Nat => Value.int .u8 (n : Int)
theorem nb_len (l : List Nat) : (nb l).length = l.length := by simp [nb]
theorem nb_at (l : List Nat) (i : Nat) (h : i < l.length) : (nb l)[i]? = some (.int .u8 ((l[i] : Nat) : Int)) := by simp [nb, h]
theorem drop_two (l : List Nat) (i : Nat) (h : i + 1 < l.length) : l.drop i = l[i] :: l[i + 1] :: l.drop (i + 2) := by
  rw [List.drop_eq_getElem_cons (by omega), List.drop_eq_getElem_cons h]
theorem wAll_none (f : Nat) (l : List Nat) (m : Nat) (h : f = 0 ∨ l.length ≤ 1) : wAll f l m = ([], m, []) := by
  cases f with
  | zero => unfold wAll; rfl
  | succ f =>
    rcases h with h | h
    · cases h
    · match l, h with
      | [], _ => unfold wAll; rfl
      | [k], _ => unfold wAll; rfl
theorem wAll_step (t : Nat) (code : List Nat) (md : Nat) (ht : t < 150) (h : 2 * t + 1 < code.length) :
    (wAll (150 - t) (code.drop (2 * t)) md).1 = (wOne md code[2 * t] code[2 * t + 1] (code.drop (2 * t + 2))).1 ++ (wAll (150 - (t + 1)) (code.drop (2 * (t + 1))) (wOne md code[2 * t] code[2 * t + 1] (code.drop (2 * t + 2))).2.1).1 ∧
    (wAll (150 - t) (code.drop (2 * t)) md).2.2 = (wOne md code[2 * t] code[2 * t + 1] (code.drop (2 * t + 2))).2.2 ++ (wAll (150 - (t + 1)) (code.drop (2 * (t + 1))) (wOne md code[2 * t] code[2 * t + 1] (code.drop (2 * t + 2))).2.1).2.2 := by
  obtain ⟨f, hf⟩ : ∃ f, 150 - t = f + 1 := ⟨150 - t - 1, by omega⟩
  have h2 : 150 - (t + 1) = f := by omega
  rw [hf, h2, drop_two code (2 * t) h, show 2 * (t + 1) = 2 * t + 2 by omega]
  conv => lhs; lhs; unfold wAll
  conv => rhs; lhs; unfold wAll
  exact ⟨rfl, rfl⟩
theorem latN_le : ∀ m, m < 5 → (latN m).1.length ≤ 3 ∧ 0 < (latN m).1.length ∧ (latN m).2.length = (latN m).1.length ∧ ∀ q, q < 3 → (latN m).1.getD q 0 < 32 ∧ (latN m).2.getD q 0 < 5 := by decide
theorem mode_set {w : World} {p base n m m' : Nat} {bs : List Bool} {tx : ByteArray} (h : WrAt w p base bs tx m n) : WrAt (w.setCell ⟨p, 2, none⟩ (.int .i64 (m' : Int))) p base bs tx m' n := by
  obtain ⟨⟨v, h1, h2⟩, h3, h4⟩ := h
  exact ⟨⟨v, h1.put 2 _, own_far h2 (p := ⟨p, 2, none⟩) h4 _⟩, h3, h4⟩
theorem WrAt.mode {w : World} {p base n m : Nat} {bs : List Bool} {tx : ByteArray} (h : WrAt w p base bs tx m n) : w.cell? ⟨p, 2, none⟩ = some (.int .i64 (m : Int)) ∧ w.frozen? ⟨p, 2, none⟩ = false ∧ p < w.heap.size := by
  obtain ⟨⟨v, h1, h2⟩, h3, h4⟩ := h
  exact ⟨by rw [h1.cell]; rfl, h1.frozen 2, h1.lt⟩
theorem keep_cell {w w' : World} {g : Nat} {l : List Nat} (h : Blk w g 3 (nvl l).toArray) (hk : KeepT w w') (hl : l.length ≤ maxLen) (q : Nat) (hq : q < l.length) : w'.cell? ⟨g, q, none⟩ = some (.int .i64 ((l.getD q 0 : Nat) : Int)) := by
  obtain ⟨A, cap, hv, -, -, h3⟩ := hk _ _ _ (by decide) (by decide) (RdT.of_blk (xs := nvl l) h rfl (Nat.le_refl _) (by rw [nvl_len]; exact hl))
  rw [nvl_len] at hv h3
  obtain ⟨b, o, cs, fr, rfl, hh, hc⟩ := h3 (by omega)
  injection hv with q1 _ _
  injection q1 with q1
  injection q1 with q1 q4 _
  subst q1; subst q4
  have h9 := hc q _ (nvl_at l q hq)
  rw [World.cell?, hh, List.getD, List.getElem?_eq_getElem hq]
  simpa using h9
theorem headL_le2 (n : Nat) : (headL n).length ≤ 21 := by
  unfold headL; split <;> simp only [List.length_append, putL_len] <;> omega
/-- What is still to be written behind a thing. -/
theorem rest_step {bs b : List Bool} {tx x : List UInt8} {RB R2 : List Bool} {RT T2 : List UInt8} (h : bs ++ (b ++ R2) = RB ∧ tx ++ (x ++ T2) = RT) : (bs ++ b) ++ R2 = RB ∧ (tx ++ x) ++ T2 = RT := by
  rw [List.append_assoc, List.append_assoc]; exact h
set_option maxRecDepth 100000 in
set_option maxHeartbeats 8000000 in
theorem write_any (v : Value) (code : List Nat) (w : World) (hv : Rd w w.heap.size v (nb code)) (hc : ∀ x ∈ code, x < 256) :
    Calls Tryz.prog 17 #[v, .int .i64 150] w fun e w' => ∃ u, e = .returned (.tuple #[u, .string (ofL (wAll 150 code 0).2.2)]) ∧ Rd w' w'.heap.size u (bv (wAll 150 code 0).1) ∧ Below w.heap.size w w' := by
  obtain ⟨A, ca, rfl, ha1, ha2, ha3⟩ := hv
  simp only [nb_len] at *
  unfold maxLen at ha2
  have HA := Lib.hid ha3; clear ha3
  have HC := Lib.hid hc; clear hc
  obtain ⟨RB, hRB⟩ : ∃ R, R = (wAll 150 code 0).1 := ⟨_, rfl⟩
  obtain ⟨RT, hRT⟩ : ∃ R, R = (wAll 150 code 0).2.2 := ⟨_, rfl⟩
  have HRB := Lib.hid hRB.symm
  have HRT := Lib.hid hRT.symm
  rw [← hRB, ← hRT]
  clear hRB hRT
  obtain ⟨B, hB⟩ : ∃ B, B = w.heap.size := ⟨_, rfl⟩
  have HBB := Lib.hid hB
  go_enter Tryz.func17, Tryz.ntmps17
  go_wp2_with fail
  rw [← hB]
  go_loopw [7] (fun iv wr => ∃ (t md n : Nat) (bs : List Bool) (tx : List UInt8), t ≤ 150 ∧ md < 5 ∧ n ≤ 600 * t ∧ tx.length ≤ 70 * t ∧ iv = .int .i64 ((2 * t : Nat) : Int) ∧ Hid (2 * t ≤ code.length) ∧ Hid (WrAt wr B (B + 1) bs (ofL tx) md n) ∧ Hid (bs ++ (wAll (150 - t) (code.drop (2 * t)) md).1 = RB ∧ tx ++ (wAll (150 - t) (code.drop (2 * t)) md).2.2 = RT) ∧ Hid (Below B w wr ∧ B + 1 ≤ wr.heap.size)) (fun iv _ => 300 - (intOf iv).toNat)
  case atStart => exact ⟨0, 0, 0, [], [], by decide, by decide, Nat.zero_le _, Nat.zero_le _, rfl, Lib.hid (Nat.zero_le _), Lib.hid ⟨⟨_, by rw [hB]; exact Blk.fresh w _ _, own_nil _ _ _⟩, rfl, by omega⟩, Lib.hid ⟨by rw [List.nil_append]; exact HRB.out, by rw [List.nil_append]; exact HRT.out⟩, Lib.hid ⟨by rw [hB]; exact bal (brf w) _, by rw [hB]; simp⟩⟩
  case round =>
    clear hB HRB HRT
    obtain ⟨t, md, n, bs, tx, ht, hmd, hn, htx, rfl, HTL, HW, HR, HK⟩ := hrel
    obtain ⟨i, hi⟩ : ∃ i, i = 2 * t := ⟨_, rfl⟩
    have HI := Lib.hid hi
    have hi3 : i ≤ 300 := by omega
    rw [← hi]
    by_cases hlt : i + 1 < code.length ∧ t < 150
    · obtain ⟨hlt, ht1⟩ := hlt
      have hi2 : i < 300 := by omega
      obtain ⟨s1, s2⟩ := wAll_step t code md ht1 (by omega)
      have hR := HR.out
      rw [s1, s2] at hR
      clear s1 s2 HR
      obtain ⟨ba, oa, rfl, hba, hca⟩ := HA.out (by omega)
      have c1 : wr.cell? ⟨ba, oa + i, none⟩ = some (.int .u8 ((code[i] : Nat) : Int)) := cell_up (hca i _ (nb_at code i (by omega))) (by have := HK.out.1; rw [HBB.out] at this; exact this)
      have c2 : wr.cell? ⟨ba, oa + (i + 1), none⟩ = some (.int .u8 ((code[i + 1] : Nat) : Int)) := cell_up (hca (i + 1) _ (nb_at code (i + 1) hlt)) (by have := HK.out.1; rw [HBB.out] at this; exact this)
      have b1 := HC.out _ (List.getElem_mem (show i < code.length by omega))
      have b2 := HC.out _ (List.getElem_mem hlt)
      have g1 : code[2 * t] = code[i] := by simp only [hi]
      have g2 : code[2 * t + 1] = code[i + 1] := by simp only [hi]
      have g3 : code.drop (2 * t + 2) = code.drop (i + 2) := by rw [hi]
      rw [g1, g2, g3] at hR
      clear g1 g2 g3
      obtain ⟨k, hk⟩ : ∃ k, k = code[i] := ⟨_, rfl⟩
      obtain ⟨N, hN⟩ : ∃ k, k = code[i + 1] := ⟨_, rfl⟩
      rw [← hk] at c1 b1 hR
      rw [← hN] at c2 b2 hR
      clear hk hN
      obtain ⟨r, hr⟩ : ∃ r, r = code.drop (i + 2) := ⟨_, rfl⟩
      rw [← hr] at hR
      have HRR := Lib.hid hr
      have HX := Lib.hid hR
      have HCA := Lib.hid hca
      obtain ⟨K, hK⟩ : ∃ K, K = k % 16 := ⟨_, rfl⟩
      have e1 : Int.tmod (k : Int) 16 = (K : Int) := by rw [Int.tmod_eq_emod_of_nonneg (by omega), hK]; rfl
      have HKK := Lib.hid hK
      have hK16 : K < 16 := by omega
      have hi64 : (i : Int) + 1 < (code.length : Int) := by omega
      obtain ⟨cM, fM, hpl⟩ := HW.out.mode
      clear hR hr hca hi hK
      have hw1 : B ≤ wr.heap.size := Nat.le_of_lt hpl
      by_cases q1 : K < 3
      · as_aux_lemma =>
        obtain ⟨L1, L2, L3, L4⟩ := latN_le md hmd
        obtain ⟨q, hq⟩ : ∃ q, q = N % (latN md).1.length := ⟨_, rfl⟩
        have hql : q < (latN md).1.length := by rw [hq]; exact Nat.mod_lt _ L2
        obtain ⟨L5, L6⟩ := L4 q (by omega)
        have hone : wOne md k N r = (putL ((latN md).1.getD q 0) (sizeT (rm md)), (latN md).2.getD q 0, []) := by
          unfold wOne
          rw [← HKK.out, if_pos q1, ← hq]
        have eN : Int.tmod (N : Int) ((latN md).1.length : Int) = (q : Int) := by rw [Int.tmod_eq_emod_of_nonneg (by omega), hq]; rfl
        have nL : ¬ (((latN md).1.length : Int) = 0) := by omega
        have nLn : ¬ ((latN md).1.length = 0) := by omega
        have eW : IntKind.i64.wrap (q : Int) = (q : Int) := by rw [IntKind.wrap_i64]; omega
        have hsz := sizeT_two (rm md)
        have hla := latches_any md wr hmd
        clear hq L4
        go_wp2_with fail
        refine hla.mono ?_
        rintro e w1 ⟨gA, gB, rfl, hA, hB2, hb1⟩
        have cA : w1.cell? ⟨gA, q, none⟩ = some (.int .i64 (((latN md).1.getD q 0 : Nat) : Int)) := by rw [hA.cell]; exact nvl_getD _ _ hql
        have hKC := fun wq (hk : KeepT w1 wq) => keep_cell hB2 hk (by unfold maxLen; omega) q (by omega)
        generalize (latN md).1.getD q 0 = NV at *
        generalize (latN md).2.getD q 0 = MV at *
        generalize (latN md).1.length = L at *
        have HKC := Lib.hid hKC
        have cM1 := cell_up cM hb1
        have HW1 := Lib.hid (HW.out.up hb1)
        have HK1 := Lib.hid (And.intro (HK.out.1.trans (hb1.mono hw1)) (Nat.le_trans HK.out.2 hb1.size))
        obtain ⟨Z, hZ⟩ : ∃ z, z = sizeT (rm md) := ⟨_, rfl⟩
        have hwd := fun wq h => width_any B md wq hmd h
        rw [← hZ] at hsz hone hwd
        have HWD := Lib.hid hwd
        clear hla hA hB2 hb1 hKC hwd hZ cM fM HW HK L3
        go_wp2_with fail
        refine Can.wp_region_can (fun w' => w'.cell? ⟨gA, q, none⟩ = some (.int .i64 (NV : Int)) ∧ w'.cell? ⟨B, 2, none⟩ = some (.int .i64 (md : Int)) ∧ Below w1.heap.size w1 w') 10 [0, 1, 2, 3, 4, 5, 6, 7, 8, 9, 10] (by kernel_rfl) (by kernel_rfl) (fun _ _ d _ _ h => by cases d <;> exact h) ⟨cA, cM1, bdr (brf w1)⟩ (fun hHeld => ?_)
        repeat (refine Can.can_pure (v := ?_) rfl rfl (Or.inl ⟨by rfl, ?_⟩) ?_; rotate_left; (focus ((intro w hSw); (try dsimp only at hSw); go_simp; (try with_reducible rfl))); (try simp only [Act.put, List.getElem_toArray, List.getElem_cons_succ, List.getElem_cons_zero, List.setIfInBounds_toArray, List.set_cons_zero, List.set_cons_succ]))
        refine Can.can_eff rfl rfl (by rfl) (fun K hK => ?_)
        go_simp
        refine (HWD.out _ hHeld.2.1).mono ?_
        rintro e w6 ⟨rfl, rfl⟩
        refine hK.out _ _ hHeld (fun hHeld1 => ?_)
        clear hK K
        (try simp only [Act.put, List.getElem_toArray, List.getElem_cons_succ, List.getElem_cons_zero, List.setIfInBounds_toArray, List.set_cons_zero, List.set_cons_succ])
        repeat (refine Can.can_pure (v := ?_) rfl rfl (Or.inl ⟨by rfl, ?_⟩) ?_; rotate_left; (focus ((intro w hSw); (try dsimp only at hSw); go_simp; (try with_reducible rfl))); (try simp only [Act.put, List.getElem_toArray, List.getElem_cons_succ, List.getElem_cons_zero, List.setIfInBounds_toArray, List.set_cons_zero, List.set_cons_succ]))
        refine Can.can_tail rfl rfl (by rfl) (fun K hK => ?_)
        go_simp
        refine (put_any B (B + 1) NV Z n bs (ofL tx) md B _ (HW1.out.up hHeld1.2.2) (by omega) (by omega) (by omega) (Nat.le_refl _) (Nat.le_trans HK1.out.2 hHeld1.2.2.size)).mono ?_
        rintro e w9 ⟨rfl, hw9, hb9, hs9, hk9⟩
        refine hK.out _ _ ?_
        clear hK K
        have hcB := HKC.out _ ((KeepT.below hHeld1.2.2).trans hk9)
        have HW9 := Lib.hid (mode_set (m' := MV) hw9)
        obtain ⟨cM9, fM9, hp9⟩ := hw9.mode
        have hK9 := And.intro ((HK1.out.1.trans (hHeld1.2.2.mono (by have := HK1.out.2; omega))).trans hb9) (Nat.le_trans (Nat.le_trans HK1.out.2 hHeld1.2.2.size) hs9)
        have HK9 : Hid (Below B w (w9.setCell ⟨B, 2, none⟩ (.int .i64 (MV : Int))) ∧ B + 1 ≤ (w9.setCell ⟨B, 2, none⟩ (.int .i64 (MV : Int))).heap.size) := Lib.hid ⟨hK9.1.setCell (p := ⟨B, 2, none⟩) (Nat.le_refl _) _, by simpa using hK9.2⟩
        clear hHeld hHeld1 hw9 hb9 hs9 hk9 hK9 HWD HKC HW1 HK1 cA cM1
        go_wp2_with fail
        -- MV = the mode, n + Z = how many bits, putL NV Z = the bits, [] = the text, (Lib.hid (by rw [List.append_nil]; exact HW9.out)) = the writer, HK9 = what stays
        have hX2 := HX.out
        rw [hone] at hX2
        have HX2 := Lib.hid (rest_step hX2)
        clear hX2 hone HX
        go_roundw
        case rel => exact ⟨t + 1, MV, n + Z, bs ++ (putL NV Z), tx ++ ([]), by omega, by omega, by omega, by rw [List.length_append]; first | omega | (rw [List.length_nil]; omega), by rw [show ((2 * (t + 1) : Nat) : Int) = (i : Int) + 2 by have := HI.out; omega], Lib.hid (by have := HI.out; omega), (Lib.hid (by rw [List.append_nil]; exact HW9.out)), HX2, HK9⟩
        case measure => simp [intOf]; omega
      · by_cases q2 : K = 3 ∧ md ≠ 3
        · as_aux_lemma =>
          obtain ⟨rfl, hm3⟩ := q2
          have hone : wOne md k N r = (putL 0 (sizeT (rm md)) ++ putL (sayC 3 N) 5, md, tabS 4 (sayC 3 N)) := by
            unfold wOne
            rw [← HKK.out, if_neg q1, if_pos ⟨rfl, hm3⟩]
          have hcl : sayC 3 N < 32 := by have h9 := (say_at 3 N (by decide)).1; have h8 := (wtab_le 3 (by decide)).1; omega
          have htl : (tabS 4 (sayC 3 N)).length ≤ 7 := tab_short 3 (by decide) _ hcl
          have hsz := sizeT_two (rm md)
          have hwd := fun wq h => width_any B md wq hmd h
          obtain ⟨Z, hZ⟩ : ∃ z, z = sizeT (rm md) := ⟨_, rfl⟩
          rw [← hZ] at hsz hone hwd
          have hsy : ∀ wq n' bs', WrAt wq B (B + 1) bs' (ofL tx) md n' → n' ≤ 90000 → B + 1 ≤ wq.heap.size → _ := fun wq n' bs' h h1 h2 => say_any B (B + 1) n' 3 5 md N B bs' tx wq (by decide) h b2 (by decide) h1 (by omega) (Nat.le_refl _) h2
          rw [show rm 3 = 4 from rfl] at hsy
          have HSY := Lib.hid hsy
          generalize sayC 3 N = C at *
          generalize tabS 4 C = S at *
          clear hsy hZ hcl
          go_wp2_with fail
          refine (hwd _ cM).mono ?_
          rintro e w1 ⟨rfl, rfl⟩
          clear hwd
          go_wp2_with fail
          refine (put_any B (B + 1) 0 Z n bs (ofL tx) md B _ HW.out (by decide) (by omega) (by omega) (Nat.le_refl _) HK.out.2).mono ?_
          rintro e w2 ⟨rfl, hw2, hb2, hs2, -⟩
          have HW2 := Lib.hid hw2
          have HK2 := Lib.hid (And.intro (HK.out.1.trans hb2) (Nat.le_trans HK.out.2 hs2))
          clear hw2 hb2 hs2 HW HK cM fM c1 c2
          go_wp2_with fail
          refine (HSY.out _ _ _ HW2.out (by omega) HK2.out.2).mono ?_
          rintro e w3 ⟨rfl, hw3, hb3, hs3, -⟩
          rw [List.append_assoc] at hw3
          have HW3 := Lib.hid hw3
          have HK3 := Lib.hid (And.intro (HK2.out.1.trans hb3) (Nat.le_trans HK2.out.2 hs3))
          clear hw3 hb3 hs3 HW2 HK2
          go_wp2_with fail
          -- md = the mode, n + Z + 5 = how many bits, putL 0 Z ++ putL C 5 = the bits, S = the text, HW3 = the writer, HK3 = what stays
          have hX2 := HX.out
          rw [hone] at hX2
          have HX2 := Lib.hid (rest_step hX2)
          clear hX2 hone HX
          go_roundw
          case rel => exact ⟨t + 1, md, n + Z + 5, bs ++ (putL 0 Z ++ putL C 5), tx ++ (S), by omega, by omega, by omega, by rw [List.length_append]; first | omega | (rw [List.length_nil]; omega), by rw [show ((2 * (t + 1) : Nat) : Int) = (i : Int) + 2 by have := HI.out; omega], Lib.hid (by have := HI.out; omega), HW3, HX2, HK3⟩
          case measure => simp [intOf]; omega
        · by_cases q3 : K = 4 ∧ (md = 1 ∨ md = 4)
          · as_aux_lemma =>
            obtain ⟨rfl, hm3⟩ := q3
            have hone : wOne md k N r = ((if md = 1 then putL 28 5 else putL 15 4) ++ putL (sayC 0 N) 5, md, tabS 0 (sayC 0 N)) := by
              unfold wOne
              rw [← HKK.out, if_neg q1, if_neg q2, if_pos ⟨rfl, hm3⟩]
            have hcl : sayC 0 N < 32 := by have h9 := (say_at 0 N (by decide)).1; have h8 := (wtab_le 0 (by decide)).1; omega
            have htl : (tabS 0 (sayC 0 N)).length ≤ 7 := tab_short 0 (by decide) _ hcl
            have hsy : ∀ wq n' bs', WrAt wq B (B + 1) bs' (ofL tx) md n' → n' ≤ 90000 → B + 1 ≤ wq.heap.size → _ := fun wq n' bs' h h1 h2 => say_any B (B + 1) n' 0 5 md N B bs' tx wq (by decide) h b2 (by decide) h1 (by omega) (Nat.le_refl _) h2
            rw [show rm 0 = 0 from rfl] at hsy
            have HSY := Lib.hid hsy
            generalize sayC 0 N = C at *
            generalize tabS 0 C = S at *
            clear hsy hcl q2
            by_cases hm1 : md = 1
            · rw [if_pos hm1] at hone
              have hmi : (md : Int) = 1 := by omega
              go_wp2_with fail
              refine (put_any B (B + 1) 28 5 n bs (ofL tx) md B _ HW.out (by decide) (by decide) (by omega) (Nat.le_refl _) HK.out.2).mono ?_
              rintro e w2 ⟨rfl, hw2, hb2, hs2, -⟩
              have HW2 := Lib.hid hw2
              have HK2 := Lib.hid (And.intro (HK.out.1.trans hb2) (Nat.le_trans HK.out.2 hs2))
              clear hw2 hb2 hs2 HW HK cM fM c1 c2
              go_wp2_with fail
              refine (HSY.out _ _ _ HW2.out (by omega) HK2.out.2).mono ?_
              rintro e w3 ⟨rfl, hw3, hb3, hs3, -⟩
              rw [List.append_assoc] at hw3
              have HW3 := Lib.hid hw3
              have HK3 := Lib.hid (And.intro (HK2.out.1.trans hb3) (Nat.le_trans HK2.out.2 hs3))
              clear hw3 hb3 hs3 HW2 HK2 hmi
              go_wp2_with fail
              -- md = the mode, n + 5 + 5 = how many bits, putL 28 5 ++ putL C 5 = the bits, S = the text, HW3 = the writer, HK3 = what stays
              have hX2 := HX.out
              rw [hone] at hX2
              have HX2 := Lib.hid (rest_step hX2)
              clear hX2 hone HX
              go_roundw
              case rel => exact ⟨t + 1, md, n + 5 + 5, bs ++ (putL 28 5 ++ putL C 5), tx ++ (S), by omega, by omega, by omega, by rw [List.length_append]; first | omega | (rw [List.length_nil]; omega), by rw [show ((2 * (t + 1) : Nat) : Int) = (i : Int) + 2 by have := HI.out; omega], Lib.hid (by have := HI.out; omega), HW3, HX2, HK3⟩
              case measure => simp [intOf]; omega
            · rw [if_neg hm1] at hone
              have hmi : (md : Int) = 4 := by omega
              go_wp2_with fail
              refine (put_any B (B + 1) 15 4 n bs (ofL tx) md B _ HW.out (by decide) (by decide) (by omega) (Nat.le_refl _) HK.out.2).mono ?_
              rintro e w2 ⟨rfl, hw2, hb2, hs2, -⟩
              have HW2 := Lib.hid hw2
              have HK2 := Lib.hid (And.intro (HK.out.1.trans hb2) (Nat.le_trans HK.out.2 hs2))
              clear hw2 hb2 hs2 HW HK cM fM c1 c2
              go_wp2_with fail
              refine (HSY.out _ _ _ HW2.out (by omega) HK2.out.2).mono ?_
              rintro e w3 ⟨rfl, hw3, hb3, hs3, -⟩
              rw [List.append_assoc] at hw3
              have HW3 := Lib.hid hw3
              have HK3 := Lib.hid (And.intro (HK2.out.1.trans hb3) (Nat.le_trans HK2.out.2 hs3))
              clear hw3 hb3 hs3 HW2 HK2 hmi
              go_wp2_with fail
              -- md = the mode, n + 4 + 5 = how many bits, putL 15 4 ++ putL C 5 = the bits, S = the text, HW3 = the writer, HK3 = what stays
              have hX2 := HX.out
              rw [hone] at hX2
              have HX2 := Lib.hid (rest_step hX2)
              clear hX2 hone HX
              go_roundw
              case rel => exact ⟨t + 1, md, n + 4 + 5, bs ++ (putL 15 4 ++ putL C 5), tx ++ (S), by omega, by omega, by omega, by rw [List.length_append]; first | omega | (rw [List.length_nil]; omega), by rw [show ((2 * (t + 1) : Nat) : Int) = (i : Int) + 2 by have := HI.out; omega], Lib.hid (by have := HI.out; omega), HW3, HX2, HK3⟩
              case measure => simp [intOf]; omega
          · by_cases q4 : K = 5
            · as_aux_lemma =>
              clear q2 q3
              obtain ⟨s, hs⟩ : ∃ s, s = i + 2 := ⟨_, rfl⟩
              obtain ⟨E, hE⟩ : ∃ E, E = s + (r.take (N % 70)).length := ⟨_, rfl⟩
              have hrl : r.length = code.length - s := by rw [HRR.out, List.length_drop, hs]
              have htk : (r.take (N % 70)).length = min (N % 70) (code.length - s) := by rw [List.length_take, hrl]
              have m1 : min (code.length : Int) ((i : Int) + 2) = (s : Int) := by omega
              obtain ⟨J, hJ⟩ : ∃ J, J = N % 70 := ⟨_, rfl⟩
              have e70 : Int.tmod (N : Int) 70 = (J : Int) := by rw [Int.tmod_eq_emod_of_nonneg (by omega), hJ]; rfl
              have hNs : J < 70 := by rw [hJ]; exact Nat.mod_lt _ (by decide)
              rw [← hJ] at hE htk
              have m2 : min (code.length : Int) ((s : Int) + (J : Int)) = (E : Int) := by omega
              have hE1 : s ≤ E := by omega
              have hE2 : E ≤ code.length := by omega
              have hs9 : s ≤ 302 := by omega
              have HJ := Lib.hid hJ
              have HS := Lib.hid (And.intro hs (And.intro hE htk))
              clear hs hE hrl htk hJ
              have hone : wOne md k N r = (if (r.take J).length = 0 ∨ 2 < md then ([], md, []) else (headL (r.take J).length ++ byteBits ((r.take J).map fun b => UInt8.ofNat (b % 128)), md, (r.take J).map fun b => UInt8.ofNat (b % 128))) := by
                unfold wOne
                rw [← HKK.out, if_neg q1, if_neg (by omega), if_neg (by omega), if_pos q4, HJ.out]
              have HONE := Lib.hid hone
              obtain ⟨M, hM⟩ : ∃ M, M = (r.take J).length := ⟨_, rfl⟩
              have hEM : E = s + M := by rw [hM]; exact HS.out.2.1
              have hM70 : M ≤ 70 := by have h9 := HS.out.2.2; omega
              have HM := Lib.hid hM
              clear hone hM
              by_cases hno : M = 0 ∨ 2 < md
              · have hone : wOne md k N r = ([], md, []) := by rw [HONE.out, if_pos (by rw [← HM.out]; exact hno)]
                have hsl : ∀ A c wq, wq.cell? ⟨B, 2, none⟩ = some (.int .i64 (md : Int)) → Calls Tryz.prog 35 #[.pointer (some ⟨B, 0, none⟩), .slice A M c] wq fun e w' => e = .returned (.tuple #[]) ∧ w' = wq := fun A c wq h => bytesB_no B md M c A wq h (by omega) (by omega) hmd
                have HSL := Lib.hid hsl
                have HNO := Lib.hid hno
                clear hsl HONE hno
                go_wp2_with fail
                · subst h
                  refine (HSL.out _ _ _ cM).mono ?_
                  rintro e w1 ⟨rfl, rfl⟩
                  clear HSL HA HCA cM fM hpl c1 c2 m1 m2 e70 e1
                  go_wp2_with fail
                  -- md = the mode, n = how many bits, [] = the bits, [] = the text, (Lib.hid (by rw [List.append_nil, List.append_nil]; exact HW.out)) = the writer, HK = what stays
                  have hX2 := HX.out
                  rw [hone] at hX2
                  have HX2 := Lib.hid (rest_step hX2)
                  clear hX2 hone HX
                  go_roundw
                  case rel => exact ⟨t + 1, md, n, bs ++ ([]), tx ++ ([]), by omega, by omega, by omega, by rw [List.length_append]; first | omega | (rw [List.length_nil]; omega), by rw [show ((2 * (t + 1) : Nat) : Int) = (i : Int) + 2 by have := HI.out; omega], Lib.hid (by have := HI.out; omega), (Lib.hid (by rw [List.append_nil, List.append_nil]; exact HW.out)), HX2, HK⟩
                  case measure => simp [intOf]; omega
                · refine (HSL.out _ _ _ cM).mono ?_
                  rintro e w1 ⟨rfl, rfl⟩
                  clear HSL HA HCA cM fM hpl c1 c2 m1 m2 e70 e1
                  go_wp2_with fail
                  -- md = the mode, n = how many bits, [] = the bits, [] = the text, (Lib.hid (by rw [List.append_nil, List.append_nil]; exact HW.out)) = the writer, HK = what stays
                  have hX2 := HX.out
                  rw [hone] at hX2
                  have HX2 := Lib.hid (rest_step hX2)
                  clear hX2 hone HX
                  go_roundw
                  case rel => exact ⟨t + 1, md, n, bs ++ ([]), tx ++ ([]), by omega, by omega, by omega, by rw [List.length_append]; first | omega | (rw [List.length_nil]; omega), by rw [show ((2 * (t + 1) : Nat) : Int) = (i : Int) + 2 by have := HI.out; omega], Lib.hid (by have := HI.out; omega), (Lib.hid (by rw [List.append_nil, List.append_nil]; exact HW.out)), HX2, HK⟩
                  case measure => simp [intOf]; omega
              · have hsca : ¬ (ca = s) := by omega
                have hlw : low7 ((r.take J).map UInt8.ofNat) = (r.take J).map fun b => UInt8.ofNat (b % 128) := by
                  unfold low7
                  rw [List.map_map]
                  refine List.map_congr_left fun b hb => ?_
                  have hb2 := HC.out b (by rw [HRR.out] at hb; exact List.mem_of_mem_drop (List.mem_of_mem_take hb))
                  simp only [Function.comp_apply, UInt8.toNat_ofNat']
                  rw [Nat.mod_eq_of_lt hb2]
                have hone : wOne md k N r = (headL M ++ byteBits (low7 ((r.take J).map UInt8.ofNat)), md, low7 ((r.take J).map UInt8.ofNat)) := by rw [HONE.out, if_neg (by rw [← HM.out]; exact hno), ← HM.out, hlw]
                have hrd : Rd wr B (.slice (some ⟨ba, oa + s, none⟩) M (ca - s)) (bl ((r.take J).map UInt8.ofNat)) := by
                  refine ⟨_, _, by rw [bl_len, List.length_map, ← HM.out], by rw [bl_len, List.length_map, ← HM.out]; omega, by unfold maxLen; omega, fun _ => ⟨ba, oa + s, rfl, by rw [HBB.out]; exact hba, fun j u hu => ?_⟩⟩
                  have hj : j < M := by have h9 := (List.getElem?_eq_some_iff.1 hu).1; rw [bl_len, List.length_map, ← HM.out] at h9; exact h9
                  have hjl : s + j < code.length := by omega
                  have h1 := HCA.out (s + j) _ (nb_at code (s + j) hjl)
                  have h2 : wr.cell? ⟨ba, oa + (s + j), none⟩ = some (.int .u8 ((code[s + j] : Nat) : Int)) := cell_up h1 (by have := HK.out.1; rw [HBB.out] at this; exact this)
                  rw [Nat.add_assoc, h2, ← hu]
                  have h3 : ((r.take J).map UInt8.ofNat)[j]? = some (UInt8.ofNat code[s + j]) := by
                    rw [List.getElem?_map, List.getElem?_take_of_lt (by have h9 := HS.out.2.2; rw [← HM.out] at h9; omega), HRR.out, List.getElem?_drop, ← HS.out.1, List.getElem?_eq_getElem hjl]; rfl
                  unfold bl
                  rw [List.getElem?_map, h3]
                  have h4 := HC.out _ (List.getElem_mem hjl)
                  simp only [Option.map_some, UInt8.toNat_ofNat']
                  rw [Nat.mod_eq_of_lt h4]
                have hbl : (low7 ((r.take J).map UInt8.ofNat)).length = M := by rw [low7_len, List.length_map, ← HM.out]
                have hM0 : 0 < M := by omega
                have hcl := bytesB_yes B (B + 1) n M bs tx md B (.slice (some ⟨ba, oa + s, none⟩) M (ca - s)) ((r.take J).map UInt8.ofNat) wr HW.out hrd (by rw [List.length_map, ← HM.out]) hM0 (by omega) (by omega) (by omega) (by omega) (Nat.le_refl _) HK.out.2
                have hhl := headL_le2 M
                generalize low7 ((r.take J).map UInt8.ofNat) = X at *
                have HCL := Lib.hid hcl
                have HONE2 := Lib.hid hone
                clear hcl hone hlw hrd HONE
                go_wp2_with fail
                refine HCL.out.mono ?_
                rintro e w1 ⟨rfl, hw1, hb1, hs1, -⟩
                have HW1 := Lib.hid hw1
                have HK1 := Lib.hid (And.intro (HK.out.1.trans hb1) (Nat.le_trans HK.out.2 hs1))
                clear hw1 hb1 hs1 HCL HW HK cM fM c1 c2 m1 m2 e70 e1 HA HCA hpl
                go_wp2_with fail
                have hone := HONE2.out
                -- md = the mode, n + (headL M).length + 8 * M = how many bits, headL M ++ byteBits X = the bits, X = the text, HW1 = the writer, HK1 = what stays
                have hX2 := HX.out
                rw [hone] at hX2
                have HX2 := Lib.hid (rest_step hX2)
                clear hX2 hone HX
                go_roundw
                case rel => exact ⟨t + 1, md, n + (headL M).length + 8 * M, bs ++ (headL M ++ byteBits X), tx ++ (X), by omega, by omega, by omega, by rw [List.length_append]; first | omega | (rw [List.length_nil]; omega), by rw [show ((2 * (t + 1) : Nat) : Int) = (i : Int) + 2 by have := HI.out; omega], Lib.hid (by have := HI.out; omega), HW1, HX2, HK1⟩
                case measure => simp [intOf]; omega
            · as_aux_lemma =>
              -- the thing is a number of the mode itself: what is known of it
              have hone : wOne md k N r = (putL (sayC md N) (sizeT (rm md)), md, tabS (rm md) (sayC md N)) := by
                unfold wOne
                rw [← HKK.out, if_neg q1, if_neg q2, if_neg q3, if_neg q4]
              have hcl : sayC md N < 32 := by have h9 := (say_at md N hmd).1; have h8 := (wtab_le md hmd).1; omega
              have htl : (tabS (rm md) (sayC md N)).length ≤ 7 := tab_short md hmd _ hcl
              have hsz := sizeT_two (rm md)
              obtain ⟨Z, hZ⟩ : ∃ z, z = sizeT (rm md) := ⟨_, rfl⟩
              have hwd := fun wq h => width_any B md wq hmd h
              rw [← hZ] at hsz hone hwd
              have hZ20 : Z ≤ 20 := by omega
              have hn9 : n ≤ 90000 := by omega
              have ht9 : tx.length ≤ 90000 := by omega
              have hsy := fun wq (h : WrAt wq B (B + 1) bs (ofL tx) md n) (h2 : B + 1 ≤ wq.heap.size) => say_any B (B + 1) n md Z md N B bs tx wq hmd h b2 hZ20 hn9 ht9 (Nat.le_refl _) h2
              have HSY := Lib.hid hsy
              have HWD := Lib.hid hwd
              have HONE := Lib.hid hone
              clear hsy hwd hZ hcl hZ20 hn9 ht9 hone
              generalize sayC md N = C at *
              generalize tabS (rm md) C = S at *
              by_cases r3 : K = 3
              · have hmi : (md : Int) = 3 := by omega
                clear q2 q3
                go_wp2_with fail
                clear hmi
                -- the region with two calls
                clear e1 c1 c2
                refine Can.wp_region_can (fun w' => w'.cell? ⟨B, 2, none⟩ = some (.int .i64 (md : Int)) ∧ Below wr.heap.size wr w') 8 [0, 1, 2, 3, 4, 5, 6, 7, 8] (by kernel_rfl) (by kernel_rfl) (fun _ _ d _ _ h => by cases d <;> exact h) ⟨cM, bdr (brf wr)⟩ (fun hHeld => ?_)
                repeat (refine Can.can_pure (v := ?_) rfl rfl (Or.inl ⟨by rfl, ?_⟩) ?_; rotate_left; (focus ((intro w hSw); (try dsimp only at hSw); go_simp; (try with_reducible rfl))); (try simp only [Act.put, List.getElem_toArray, List.getElem_cons_succ, List.getElem_cons_zero, List.setIfInBounds_toArray, List.set_cons_zero, List.set_cons_succ]))
                refine Can.can_eff rfl rfl (by rfl) (fun K hK => ?_)
                go_simp
                refine (HWD.out _ hHeld.1).mono ?_
                rintro e w6 ⟨rfl, rfl⟩
                refine hK.out _ _ hHeld (fun hHeld1 => ?_)
                clear hK K
                (try simp only [Act.put, List.getElem_toArray, List.getElem_cons_succ, List.getElem_cons_zero, List.setIfInBounds_toArray, List.set_cons_zero, List.set_cons_succ])
                repeat (refine Can.can_pure (v := ?_) rfl rfl (Or.inl ⟨by rfl, ?_⟩) ?_; rotate_left; (focus ((intro w hSw); (try dsimp only at hSw); go_simp; (try with_reducible rfl))); (try simp only [Act.put, List.getElem_toArray, List.getElem_cons_succ, List.getElem_cons_zero, List.setIfInBounds_toArray, List.set_cons_zero, List.set_cons_succ]))
                refine Can.can_tail rfl rfl (by rfl) (fun K hK => ?_)
                go_simp
                refine (HSY.out _ (HW.out.up hHeld1.2) (Nat.le_trans HK.out.2 hHeld1.2.size)).mono ?_
                rintro e w9 ⟨rfl, hw9, hb9, hs9, hk9⟩
                refine hK.out _ _ ?_
                clear hK K
                have HW9 := Lib.hid hw9
                have HK9 := Lib.hid (And.intro ((HK.out.1.trans (hHeld1.2.mono (Nat.le_of_lt hpl))).trans hb9) (Nat.le_trans (Nat.le_trans HK.out.2 hHeld1.2.size) hs9))
                clear hHeld hHeld1 hw9 hb9 hs9 hk9 HSY HWD cM fM hpl HW HK
                go_wp2_with fail
                have hone := HONE.out
                -- md = the mode, n + Z = how many bits, putL C Z = the bits, S = the text, HW9 = the writer, HK9 = what stays
                have hX2 := HX.out
                rw [hone] at hX2
                have HX2 := Lib.hid (rest_step hX2)
                clear hX2 hone HX
                go_roundw
                case rel => exact ⟨t + 1, md, n + Z, bs ++ (putL C Z), tx ++ (S), by omega, by omega, by omega, by rw [List.length_append]; first | omega | (rw [List.length_nil]; omega), by rw [show ((2 * (t + 1) : Nat) : Int) = (i : Int) + 2 by have := HI.out; omega], Lib.hid (by have := HI.out; omega), HW9, HX2, HK9⟩
                case measure => simp [intOf]; omega
              · by_cases r4 : K = 4
                · have hmi : ((md : Int) == 1) = false := by rw [beq_eq_false_iff_ne]; omega
                  have hmj : ((md : Int) == 4) = false := by rw [beq_eq_false_iff_ne]; omega
                  clear q2 q3
                  go_wp2_with fail
                  -- the region with two calls
                  clear e1 c1 c2
                  refine Can.wp_region_can (fun w' => w'.cell? ⟨B, 2, none⟩ = some (.int .i64 (md : Int)) ∧ Below wr.heap.size wr w') 8 [0, 1, 2, 3, 4, 5, 6, 7, 8] (by kernel_rfl) (by kernel_rfl) (fun _ _ d _ _ h => by cases d <;> exact h) ⟨cM, bdr (brf wr)⟩ (fun hHeld => ?_)
                  repeat (refine Can.can_pure (v := ?_) rfl rfl (Or.inl ⟨by rfl, ?_⟩) ?_; rotate_left; (focus ((intro w hSw); (try dsimp only at hSw); go_simp; (try with_reducible rfl))); (try simp only [Act.put, List.getElem_toArray, List.getElem_cons_succ, List.getElem_cons_zero, List.setIfInBounds_toArray, List.set_cons_zero, List.set_cons_succ]))
                  refine Can.can_eff rfl rfl (by rfl) (fun K hK => ?_)
                  go_simp
                  refine (HWD.out _ hHeld.1).mono ?_
                  rintro e w6 ⟨rfl, rfl⟩
                  refine hK.out _ _ hHeld (fun hHeld1 => ?_)
                  clear hK K
                  (try simp only [Act.put, List.getElem_toArray, List.getElem_cons_succ, List.getElem_cons_zero, List.setIfInBounds_toArray, List.set_cons_zero, List.set_cons_succ])
                  repeat (refine Can.can_pure (v := ?_) rfl rfl (Or.inl ⟨by rfl, ?_⟩) ?_; rotate_left; (focus ((intro w hSw); (try dsimp only at hSw); go_simp; (try with_reducible rfl))); (try simp only [Act.put, List.getElem_toArray, List.getElem_cons_succ, List.getElem_cons_zero, List.setIfInBounds_toArray, List.set_cons_zero, List.set_cons_succ]))
                  refine Can.can_tail rfl rfl (by rfl) (fun K hK => ?_)
                  go_simp
                  refine (HSY.out _ (HW.out.up hHeld1.2) (Nat.le_trans HK.out.2 hHeld1.2.size)).mono ?_
                  rintro e w9 ⟨rfl, hw9, hb9, hs9, hk9⟩
                  refine hK.out _ _ ?_
                  clear hK K
                  have HW9 := Lib.hid hw9
                  have HK9 := Lib.hid (And.intro ((HK.out.1.trans (hHeld1.2.mono (Nat.le_of_lt hpl))).trans hb9) (Nat.le_trans (Nat.le_trans HK.out.2 hHeld1.2.size) hs9))
                  clear hHeld hHeld1 hw9 hb9 hs9 hk9 HSY HWD cM fM hpl HW HK
                  go_wp2_with fail
                  have hone := HONE.out
                  -- md = the mode, n + Z = how many bits, putL C Z = the bits, S = the text, HW9 = the writer, HK9 = what stays
                  have hX2 := HX.out
                  rw [hone] at hX2
                  have HX2 := Lib.hid (rest_step hX2)
                  clear hX2 hone HX
                  go_roundw
                  case rel => exact ⟨t + 1, md, n + Z, bs ++ (putL C Z), tx ++ (S), by omega, by omega, by omega, by rw [List.length_append]; first | omega | (rw [List.length_nil]; omega), by rw [show ((2 * (t + 1) : Nat) : Int) = (i : Int) + 2 by have := HI.out; omega], Lib.hid (by have := HI.out; omega), HW9, HX2, HK9⟩
                  case measure => simp [intOf]; omega
                · clear q2 q3
                  go_wp2_with fail
                  -- the region with two calls
                  clear e1 c1 c2
                  refine Can.wp_region_can (fun w' => w'.cell? ⟨B, 2, none⟩ = some (.int .i64 (md : Int)) ∧ Below wr.heap.size wr w') 8 [0, 1, 2, 3, 4, 5, 6, 7, 8] (by kernel_rfl) (by kernel_rfl) (fun _ _ d _ _ h => by cases d <;> exact h) ⟨cM, bdr (brf wr)⟩ (fun hHeld => ?_)
                  repeat (refine Can.can_pure (v := ?_) rfl rfl (Or.inl ⟨by rfl, ?_⟩) ?_; rotate_left; (focus ((intro w hSw); (try dsimp only at hSw); go_simp; (try with_reducible rfl))); (try simp only [Act.put, List.getElem_toArray, List.getElem_cons_succ, List.getElem_cons_zero, List.setIfInBounds_toArray, List.set_cons_zero, List.set_cons_succ]))
                  refine Can.can_eff rfl rfl (by rfl) (fun K hK => ?_)
                  go_simp
                  refine (HWD.out _ hHeld.1).mono ?_
                  rintro e w6 ⟨rfl, rfl⟩
                  refine hK.out _ _ hHeld (fun hHeld1 => ?_)
                  clear hK K
                  (try simp only [Act.put, List.getElem_toArray, List.getElem_cons_succ, List.getElem_cons_zero, List.setIfInBounds_toArray, List.set_cons_zero, List.set_cons_succ])
                  repeat (refine Can.can_pure (v := ?_) rfl rfl (Or.inl ⟨by rfl, ?_⟩) ?_; rotate_left; (focus ((intro w hSw); (try dsimp only at hSw); go_simp; (try with_reducible rfl))); (try simp only [Act.put, List.getElem_toArray, List.getElem_cons_succ, List.getElem_cons_zero, List.setIfInBounds_toArray, List.set_cons_zero, List.set_cons_succ]))
                  refine Can.can_tail rfl rfl (by rfl) (fun K hK => ?_)
                  go_simp
                  refine (HSY.out _ (HW.out.up hHeld1.2) (Nat.le_trans HK.out.2 hHeld1.2.size)).mono ?_
                  rintro e w9 ⟨rfl, hw9, hb9, hs9, hk9⟩
                  refine hK.out _ _ ?_
                  clear hK K
                  have HW9 := Lib.hid hw9
                  have HK9 := Lib.hid (And.intro ((HK.out.1.trans (hHeld1.2.mono (Nat.le_of_lt hpl))).trans hb9) (Nat.le_trans (Nat.le_trans HK.out.2 hHeld1.2.size) hs9))
                  clear hHeld hHeld1 hw9 hb9 hs9 hk9 HSY HWD cM fM hpl HW HK
                  go_wp2_with fail
                  have hone := HONE.out
                  -- md = the mode, n + Z = how many bits, putL C Z = the bits, S = the text, HW9 = the writer, HK9 = what stays
                  have hX2 := HX.out
                  rw [hone] at hX2
                  have HX2 := Lib.hid (rest_step hX2)
                  clear hX2 hone HX
                  go_roundw
                  case rel => exact ⟨t + 1, md, n + Z, bs ++ (putL C Z), tx ++ (S), by omega, by omega, by omega, by rw [List.length_append]; first | omega | (rw [List.length_nil]; omega), by rw [show ((2 * (t + 1) : Nat) : Int) = (i : Int) + 2 by have := HI.out; omega], Lib.hid (by have := HI.out; omega), HW9, HX2, HK9⟩
                  case measure => simp [intOf]; omega
    · as_aux_lemma =>
      have hR := HR.out
      have hTL := HTL.out
      rw [wAll_none (150 - t) (code.drop (2 * t)) md (by rw [List.length_drop]; omega), List.append_nil, List.append_nil] at hR
      obtain ⟨rfl, rfl⟩ := hR
      obtain ⟨u, h1, h2⟩ := HW.out.own
      have c0 : wr.cell? ⟨B, 0, none⟩ = some u := by rw [h1.cell]; rfl
      have c1 : wr.cell? ⟨B, 1, none⟩ = some (.string (ofL tx)) := by rw [h1.cell]; rfl
      have HO := Lib.hid (Rd.of_own h2)
      have hfin : Hid (Below w.heap.size w wr) := Lib.hid (by have := HK.out.1; rw [HBB.out] at this; exact this)
      have hor : code.length ≤ i + 1 ∨ (i + 1 < code.length ∧ 300 ≤ i) := by omega
      clear h1 h2 HR hTL hlt hi
      rcases hor with h | ⟨h, h9⟩
      · go_wp2_with fail
        refine Can.wp_region_can (fun w' => w'.cell? ⟨B, 0, none⟩ = some u ∧ w'.cell? ⟨B, 1, none⟩ = some (.string (ofL tx))) 999 [0, 1, 2, 3, 4, 5, 6, 7, 8, 9] (by kernel_rfl) (by kernel_rfl) (fun _ _ d _ _ h => by cases d <;> exact h) ⟨c0, c1⟩ (fun hHeld => ?_)
        repeat (refine Can.can_pure (v := ?_) rfl rfl (Or.inl ⟨by rfl, ?_⟩) ?_; rotate_left; (focus ((intro w hSw); (try dsimp only at hSw); go_simp; (try with_reducible rfl))); (try simp only [Act.put, List.getElem_toArray, List.getElem_cons_succ, List.getElem_cons_zero, List.setIfInBounds_toArray, List.set_cons_zero, List.set_cons_succ]))
        refine Can.can_done ?_
        clear hHeld
        go_wp2
        go_ret2
        exact ⟨u, rfl, HO.out, hfin.out.drew⟩
      · go_wp2_with fail
        refine Can.wp_region_can (fun w' => w'.cell? ⟨B, 0, none⟩ = some u ∧ w'.cell? ⟨B, 1, none⟩ = some (.string (ofL tx))) 999 [0, 1, 2, 3, 4, 5, 6, 7, 8, 9] (by kernel_rfl) (by kernel_rfl) (fun _ _ d _ _ h => by cases d <;> exact h) ⟨c0, c1⟩ (fun hHeld => ?_)
        repeat (refine Can.can_pure (v := ?_) rfl rfl (Or.inl ⟨by rfl, ?_⟩) ?_; rotate_left; (focus ((intro w hSw); (try dsimp only at hSw); go_simp; (try with_reducible rfl))); (try simp only [Act.put, List.getElem_toArray, List.getElem_cons_succ, List.getElem_cons_zero, List.setIfInBounds_toArray, List.set_cons_zero, List.set_cons_succ]))
        refine Can.can_done ?_
        clear hHeld
        go_wp2
        go_ret2
        exact ⟨u, rfl, HO.out, hfin.out.drew⟩
end Go.Proofs.YtopfdmmimgnciaaGreatDoor
