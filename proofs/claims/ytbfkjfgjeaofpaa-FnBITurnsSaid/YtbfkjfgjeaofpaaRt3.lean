/-
  WALKS: BitMatrix.Rotate180.
-/
import Derived.Test.YtbfkjfgjeaofpaaRt2
namespace Go.Proofs.Ytbfkjfgjeaofpaa
open Go.RowKit

/-- Where the turning stands. -/
structure RotS (w wr : World) (p g W H R n : Nat) (F : Nat → Nat → Nat) : Prop where
  head : Blk wr p 89 #[.int .i64 W, .int .i64 H, .int .i64 R, .slice (some ⟨g, 0, none⟩) n n]
  words : WordsV wr g R H F
  below : w.grownBy wr (some g)
  apart : p ≠ g
section
variable {w wr : World} {p g W H R n : Nat} {F F' : Nat → Nat → Nat}
theorem RotS.congr (h : RotS w wr p g W H R n F) (hf : ∀ r q, r < H → q < R → F r q = F' r q) : RotS w wr p g W H R n F' := ⟨h.head, h.words.congr hf, h.below, h.apart⟩
theorem RotS.put (h : RotS w wr p g W H R n F) {r q : Nat} (hr : r < H) (hq : q < R) (v : Nat) (hv : v < 4294967296) : RotS w (wr.setCell ⟨g, r * R + q, none⟩ (.int .u32 (v : Int))) p g W H R n (fun a b => if a = r ∧ b = q then v else F a b) :=
  ⟨h.head.far h.apart _, h.words.put hr hq v hv, grown_set h.below _ _, h.apart⟩
theorem RotS.drew (h : RotS w wr p g W H R n F) : RotS w wr.drew p g W H R n F := ⟨h.head.drew, h.words.drew, grown_drew h.below, h.apart⟩
theorem RotS.heads (h : RotS w wr p g W H R n F) : wr.cell? ⟨p, 0, none⟩ = some (.int .i64 W) ∧ wr.cell? ⟨p, 1, none⟩ = some (.int .i64 H) ∧ wr.cell? ⟨p, 2, none⟩ = some (.int .i64 R) ∧ wr.cell? ⟨p, 3, none⟩ = some (.slice (some ⟨g, 0, none⟩) n n) :=
  ⟨by rw [h.head.cell]; rfl, by rw [h.head.cell]; rfl, by rw [h.head.cell]; rfl, by rw [h.head.cell]; rfl⟩
end

set_option maxRecDepth 100000 in
set_option maxHeartbeats 4000000 in
theorem rot180_any (p g W H : Nat) (f : Nat → Nat → Bool) (w : World) (hm : MatAt w p g W H f) (hW1 : 1 ≤ W) (hH1 : 1 ≤ H) (hW : W ≤ 4096) (hH : H ≤ 4096) (hs1 : 1 ≤ W % 32) :
    Calls Try.prog 50 #[.pointer (some ⟨p, 0, none⟩)] w fun e w' => e = .returned (.tuple #[]) ∧ MatAt w' p g W H (fun x y => f (W - 1 - x) (H - 1 - y)) ∧ w.grownBy w' (some g) := by
  obtain ⟨o, hov, hof⟩ := hm.vals
  obtain ⟨hd, hpg⟩ := hm.heads
  have hlt := fun r q hr hq => hov.lt (r := r) (q := q) hr hq
  have hbit := fun R hR => outF_bit W H R (W % 32) o f (by subst hR; exact hlt) hof rfl hs1 hR
  have hn2 : (W + 31) / 32 * H ≤ 129 * 4096 := Nat.mul_le_mul (by omega) hH
  have HS0 : Hid (RotS w w p g W H ((W + 31) / 32) ((W + 31) / 32 * H) (swF H ((W + 31) / 32) o 0 0)) := Lib.hid ⟨hd, hov.congr (fun r q _ _ => (swF_zero _ _ o r q).symm), World.grownBy.refl _ _, hpg⟩
  have HBit := Lib.hid (hbit ((W + 31) / 32) rfl)
  clear hm hov hof hlt hbit hd hpg
  generalize hR : (W + 31) / 32 = R at *
  have hR1 : 1 ≤ R := by omega
  have hRW : R ≤ 129 := by omega
  have HR := Lib.hid hR; clear hR
  generalize hnn : R * H = n at *
  have HNN := Lib.hid hnn; clear hnn
  obtain ⟨c0, c1, c2, _⟩ := HS0.out.heads
  have hs9 : W % 32 ≤ 31 := by omega
  have hsW : (W : Int) % 32 = ((W % 32 : Nat) : Int) := by omega
  generalize hss : W % 32 = s at *
  have HSS := Lib.hid hss; clear hss
  have hsh : ((s : Int) != 0) = true := by rw [bne_iff_ne]; omega
  go_enter Try.func50, Try.ntmps50
  go_wp2_with fail
  clear c0 c1 c2
  go_loopw [4] (fun iv wr => ∃ i : Nat, i ≤ H / 2 ∧ iv = .int .i64 i ∧ Hid (RotS w wr p g W H R n (swF H R o i 0))) (fun iv _ => H / 2 - (intOf iv).toNat)
  case atStart => exact ⟨0, Nat.zero_le _, rfl, HS0⟩
  case round =>
    clear HS0
    obtain ⟨i, hi, rfl, HS⟩ := hrel
    by_cases hlt : i < H / 2
    · have ht : decide ((i : Int) < (H : Int) / 2) = true := by simp; omega
      have e1 : (i : Int) * (R : Int) = ((i * R : Nat) : Int) := by simp
      have e2 : ((H : Int) - (i : Int)) * (R : Int) = (((H - 1 - i) * R : Nat) : Int) + (R : Int) := by
        have h1 : (H : Int) - (i : Int) = ((H - 1 - i : Nat) : Int) + 1 := by omega
        rw [h1, Int.add_mul, Int.one_mul]; simp
      have k1 : i * R ≤ 4096 * 129 := Nat.mul_le_mul (by omega) hRW
      have k2 : (H - 1 - i) * R ≤ 4096 * 129 := Nat.mul_le_mul (by omega) hRW
      generalize ht1 : i * R = t1 at *
      generalize ht2 : (H - 1 - i) * R = t2 at *
      have HT := Lib.hid (And.intro ht1.symm ht2.symm); clear ht1 ht2
      go_wp2_with fail
      go_loopw [7] (fun jv wi => ∃ j : Nat, j ≤ R ∧ jv = .int .i64 j ∧ Hid (RotS w wi p g W H R n (swF H R o i j))) (fun jv _ => R - (intOf jv).toNat)
      case atStart => exact ⟨0, Nat.zero_le _, rfl, HS⟩
      case round =>
        rename World => wi
        clear HS
        obtain ⟨j, hj, rfl, HS⟩ := hrel
        by_cases hjl : j < R
        · obtain ⟨_, _, _, c3⟩ := HS.out.heads
          obtain ⟨sa, sb⟩ := swF_at H R o i j hjl (.inl (by omega))
          obtain ⟨ca, fa⟩ := HS.out.words.cell (r := i) (q := j) (by omega) (by omega)
          obtain ⟨cb, fb⟩ := HS.out.words.cell (r := H - 1 - i) (q := R - 1 - j) (by omega) (by omega)
          have la := HS.out.words.lt (r := i) (q := j) (by omega) (by omega)
          have lb := HS.out.words.lt (r := H - 1 - i) (q := R - 1 - j) (by omega) (by omega)
          rw [sa] at ca la
          rw [sb] at cb lb
          have hp1 := row_lt (R := R) (H := H) (r := i) (q := j) (by omega) (by omega)
          have hp2 := row_lt (R := R) (H := H) (r := H - 1 - i) (q := R - 1 - j) (by omega) (by omega)
          have hst := ((HS.out.drew.put (r := i) (q := j) (by omega) (by omega) (o (H - 1 - i) (R - 1 - j)) lb).put (r := H - 1 - i) (q := R - 1 - j) (by omega) (by omega) (o i j) la).congr (swF_step H R o i j (by omega) (by omega) (.inl (by omega)))
          have HS2 := Lib.hid hst
          have hne : ¬ (i * R + j = (H - 1 - i) * R + (R - 1 - j)) := fun he => by
            obtain ⟨h5, h6⟩ := row_inj (by omega) (by omega) he
            omega
          clear hst HS sa sb
          generalize o i j = va at *
          generalize o (H - 1 - i) (R - 1 - j) = vb at *
          rw [HNN.out] at hp1 hp2
          rw [← HT.out.1] at ca fa hp1
          rw [← HT.out.2] at cb fb hp2
          rw [← HT.out.1, ← HT.out.2] at hne HS2
          have hrj : ((t2 : Int) + (R : Int) - 1 - (j : Int)).toNat = t2 + (R - 1 - j) := by omega
          have hs0 : ((t1 : Int) + (j : Int)).toNat = t1 + j := by omega
          have i1 : (0 : Int) ≤ (t1 : Int) + (j : Int) := by omega
          have i2 : (t1 : Int) + (j : Int) < (n : Int) := by omega
          have i3 : (0 : Int) ≤ (t2 : Int) + (R : Int) - 1 - (j : Int) := by omega
          have i5 : (j : Int) ≤ (t2 : Int) + (R : Int) - 1 := by omega
          have i4 : (t2 : Int) + (R : Int) - 1 - (j : Int) < (n : Int) := by omega
          go_wp2_with fail
          refine Can2.wp_region_can (fun nC w' => Can2.two (w'.cell? ⟨p, 3, none⟩ = some (.slice (some ⟨g, 0, none⟩) n n) ∧ w'.cell? ⟨g, t1 + j, none⟩ = some (.int .u32 va) ∧ w'.frozen? ⟨g, t1 + j, none⟩ = false ∧ w'.cell? ⟨g, t2 + (R - 1 - j), none⟩ = some (.int .u32 vb) ∧ w'.frozen? ⟨g, t2 + (R - 1 - j), none⟩ = false) (w'.cell? ⟨g, t2 + (R - 1 - j), none⟩ = some (.int .u32 vb) ∧ w'.frozen? ⟨g, t2 + (R - 1 - j), none⟩ = false) nC) [25] 27 [0, 1, 2, 3, 4, 5, 6, 7, 8, 9, 10, 11, 12, 13, 14, 15, 16, 17, 18, 19, 20, 21, 22, 23, 24, 25, 26, 27] 1 rfl (by kernel_rfl) (by kernel_rfl) (fun _ _ d _ _ h => by cases d <;> exact h) (Can2.mk1 ⟨c3, ca, fa, cb, fb⟩) (fun hHeld => ?_)
          repeat (refine Can2.can_pure (n := 1) (v := ?_) rfl rfl rfl (Or.inl ⟨by rfl, ?_⟩) ?_; rotate_left; (focus ((intro w hSw); (try simp only [Can2.two_1] at hSw); go_simp; (try with_reducible rfl))); (try simp only [Act.put, List.getElem_toArray, List.getElem_cons_succ, List.getElem_cons_zero, List.setIfInBounds_toArray, List.set_cons_zero, List.set_cons_succ]))
          have hA := Can2.of1 hHeld
          have hc1 := hA.2.1
          have hf1 := hA.2.2.1
          have hc2 := hA.2.2.2.1
          have hf2 := hA.2.2.2.2
          refine Can2.can_eff (n := 0) rfl rfl rfl (by rfl) (fun K hK => ?_)
          go_simp
          refine hK.out _ _ (Can2.mk0 ⟨by go_simp, by go_simp⟩) (fun hHeld1 => ?_)
          clear hK K
          (try simp only [Act.put, List.getElem_toArray, List.getElem_cons_succ, List.getElem_cons_zero, List.setIfInBounds_toArray, List.set_cons_zero, List.set_cons_succ])
          have hB0 := Can2.of0 hHeld1
          have hc3 := hB0.1
          have hf3 := hB0.2
          repeat (refine Can2.can_pure (n := 0) (v := ?_) rfl rfl rfl (Or.inl ⟨by rfl, ?_⟩) ?_; rotate_left; (focus ((intro w hSw); (try simp only [Can2.two_0] at hSw); go_simp; (try with_reducible rfl))); (try simp only [Act.put, List.getElem_toArray, List.getElem_cons_succ, List.getElem_cons_zero, List.setIfInBounds_toArray, List.set_cons_zero, List.set_cons_succ]))
          refine Can2.can_tail rfl rfl (by rfl) (fun K hK => ?_)
          go_simp
          refine hK.out _ _ ?_
          clear hK K
          clear hHeld hHeld1 hA hc1 hf1 hc2 hf2 hB0 hc3 hf3 ca cb fa fb c3 hrj hs0 i1 i2 i3 i4 i5 hp1 hp2 hne
          go_wp2
          go_roundw
          case rel => exact ⟨j + 1, by omega, by go_num, HS2⟩
          case measure => simp [intOf]; omega
        · obtain rfl : j = R := by omega
          have HS2 : Hid (RotS w wi p g W H j n (swF H j o (i + 1) 0)) := Lib.hid (HS.out.congr (fun r q _ hq => swF_row H j o i r q hq))
          go_wp2
          go_roundw
          case rel => exact ⟨i + 1, by omega, by go_num, HS2⟩
          case measure => simp [intOf]; omega
    · have hi2 : i = H / 2 := by omega
      have ht : decide ((i : Int) < (H : Int) / 2) = false := by simp; omega
      have HI := Lib.hid hi2; clear hi2 hi hlt
      rcases Nat.mod_two_eq_zero_or_one H with hpar | hpar
      · have HS1 : Hid (RotS w wr p g W H R n (fun r q => o (H - 1 - r) (R - 1 - q))) := Lib.hid (HS.out.congr (fun r q hr _ => by rw [HI.out]; exact swF_even H R o r q hr hpar))
        have hpi : (((H : Int) % 2) != 0) = false := by rw [bne_eq_false_iff_eq]; omega
        clear HS
        obtain ⟨c0, _, _, _⟩ := HS1.out.heads
        go_wp2_with fail
        clear c0 hpi ht hsW
        generalize hrv : (fun r q => o (H - 1 - r) (R - 1 - q)) = rv at *
        have HRV := Lib.hid hrv; clear hrv
        have HS2 : Hid (RotS w wr p g W H R n (roF s R rv 0 0)) := Lib.hid (HS1.out.congr (fun r q _ _ => (roF_zero s R rv r q).symm))
        clear HS1
        go_loopw [15] (fun iv wi => ∃ i : Nat, i ≤ H ∧ iv = .int .i64 i ∧ Hid (RotS w wi p g W H R n (roF s R rv i 0))) (fun iv _ => H - (intOf iv).toNat)
        case atStart => exact ⟨0, Nat.zero_le _, rfl, HS2⟩
        case round =>
          rename World => wi
          clear HS2
          obtain ⟨i, hi, rfl, HS⟩ := hrel
          by_cases hlt : i < H
          · have e1 : (R : Int) * (i : Int) = ((i * R : Nat) : Int) := by simp [Int.mul_comm]
            obtain ⟨_, _, _, c3⟩ := HS.out.heads
            have hz : roF s R rv i 0 i 0 = rv i 0 := by unfold roF; rw [if_neg (by omega), if_pos rfl, if_neg (by omega), if_neg (by omega)]
            obtain ⟨ca, fa⟩ := HS.out.words.cell (r := i) (q := 0) hlt (by omega)
            have la := HS.out.words.lt (r := i) (q := 0) hlt (by omega)
            rw [hz] at ca la
            rw [Nat.add_zero] at ca fa
            have hp1 := row_lt (R := R) (H := H) (r := i) (q := 0) hlt (by omega)
            rw [HNN.out, Nat.add_zero] at hp1
            have hpl : p1 s (rv i 0) < 4294967296 := by unfold p1; exact Nat.lt_of_le_of_lt (Nat.div_le_self _ _) (rev32_lt _ la)
            have hst := ((HS.out.drew.put (r := i) (q := 0) hlt (by omega) (p1 s (rv i 0)) hpl).congr (fun r q _ _ => roF_first s R rv i r q))
            rw [Nat.add_zero] at hst
            have hrl := rev32_lt _ la
            have hpd : p1 s (rv i 0) = rev32 (rv i 0) / 2 ^ (32 - s) := rfl
            rw [hpd] at hst
            have HS2 := Lib.hid hst
            have hrv := fun w' => reverse_any (rv i 0) w' la
            have HRev := Lib.hid hrv
            clear hst HS hz hpl hpd hrv
            have k1 : i * R ≤ 4096 * 129 := Nat.mul_le_mul (by omega) hRW
            generalize ht1 : i * R = t1 at *
            have HT := Lib.hid ht1; clear ht1
            generalize rv i 0 = va at *
            generalize rev32 va = vr at *
            have hw1 : IntKind.u64.wrap (32 - (s : Int)) = 32 - (s : Int) := by rw [IntKind.wrap_u64]; omega
            have hw2 : (32 - (s : Int)).toNat = 32 - s := by omega
            have i1 : (0 : Int) ≤ (t1 : Int) := by omega
            have i2 : (t1 : Int) < (n : Int) := by omega
            go_wp2_with fail
            refine Can.wp_region_can (fun w' => w'.cell? ⟨p, 3, none⟩ = some (.slice (some ⟨g, 0, none⟩) n n) ∧ w'.cell? ⟨g, t1, none⟩ = some (.int .u32 va) ∧ w'.frozen? ⟨g, t1, none⟩ = false) 17 [0, 1, 2, 3, 4, 5, 6, 7, 8, 9, 10, 11, 13, 14, 12, 15, 16, 17] (by kernel_rfl) (by kernel_rfl) (fun _ _ d _ _ h => by cases d <;> exact h) ⟨c3, ca, fa⟩ (fun hHeld => ?_)
            repeat (refine Can.can_pure (v := ?_) rfl rfl (Or.inl ⟨by rfl, ?_⟩) ?_; rotate_left; (focus ((intro w hSw); (try dsimp only at hSw); go_simp; (try with_reducible rfl))); (try simp only [Act.put, List.getElem_toArray, List.getElem_cons_succ, List.getElem_cons_zero, List.setIfInBounds_toArray, List.set_cons_zero, List.set_cons_succ]))
            refine Can.can_eff rfl rfl (by rfl) (fun K hK => ?_)
            go_simp
            refine (HRev.out _).mono ?_
            rintro e w5 ⟨rfl, rfl⟩
            refine hK.out _ _ hHeld (fun hHeld1 => ?_)
            clear hK K
            (try simp only [Act.put, List.getElem_toArray, List.getElem_cons_succ, List.getElem_cons_zero, List.setIfInBounds_toArray, List.set_cons_zero, List.set_cons_succ])
            repeat (refine Can.can_pure (v := ?_) rfl rfl (Or.inl ⟨by rfl, ?_⟩) ?_; rotate_left; (focus ((intro w hSw); (try dsimp only at hSw); go_simp; (try with_reducible rfl))); (try simp only [Act.put, List.getElem_toArray, List.getElem_cons_succ, List.getElem_cons_zero, List.setIfInBounds_toArray, List.set_cons_zero, List.set_cons_succ]))
            have c9 := hHeld1.2.1
            have f9 := hHeld1.2.2
            refine Can.can_tail rfl rfl (by rfl) (fun K hK => ?_)
            go_simp
            refine hK.out _ _ ?_
            clear hK K
            clear hHeld hHeld1 c9 f9 ca fa c3 i1 i2 hw1 HRev
            go_wp2_with fail
            go_loopw [17] (fun jv wi => ∃ j : Nat, 1 ≤ j ∧ j ≤ R ∧ jv = .int .i64 j ∧ Hid (RotS w wi p g W H R n (roF s R rv i j))) (fun jv _ => R - (intOf jv).toNat)
            case atStart => exact ⟨1, Nat.le_refl _, hR1, rfl, HS2⟩
            case round =>
              rename World => wj
              clear HS2
              obtain ⟨j, hj1, hj, rfl, HS⟩ := hrel
              by_cases hjl : j < R
              · obtain ⟨_, _, _, c3⟩ := HS.out.heads
                obtain ⟨z1, z2⟩ := roF_at s R rv i j hj1
                obtain ⟨ca, fa⟩ := HS.out.words.cell (r := i) (q := j) hlt hjl
                have la := HS.out.words.lt (r := i) (q := j) hlt hjl
                obtain ⟨cb, fb⟩ := HS.out.words.cell (r := i) (q := j - 1) hlt (by omega)
                have lb := HS.out.words.lt (r := i) (q := j - 1) hlt (by omega)
                rw [z2] at ca la
                rw [z1] at cb lb
                have hp1 := row_lt (R := R) (H := H) (r := i) (q := j) hlt hjl
                rw [HNN.out, HT.out] at hp1
                have hrl := rev32_lt _ la
                have hpl : p1 s (rv i j) < 4294967296 := by unfold p1; exact Nat.lt_of_le_of_lt (Nat.div_le_self _ _) hrl
                have hml : rev32 (rv i j) * 2 ^ s % 4294967296 < 4294967296 := Nat.mod_lt _ (by decide)
                have hol : (p1 s (rv i (j - 1)) ||| rev32 (rv i j) * 2 ^ s % 4294967296) < 4294967296 := Nat.or_lt_two_pow (n := 32) lb hml
                have hst := ((HS.out.put (r := i) (q := j - 1) hlt (by omega) _ hol).put (r := i) (q := j) hlt hjl (p1 s (rv i j)) hpl).congr (fun r q _ _ => roF_step s R rv i j hj1 hjl r q)
                have hor := u32_or (p1 s (rv i (j - 1))) (rev32 (rv i j) * 2 ^ s % 4294967296) lb hml
                have hrv := fun w' => reverse_any (rv i j) w' la
                have HRev := Lib.hid hrv
                have hpd : p1 s (rv i j) = rev32 (rv i j) / 2 ^ (32 - s) := rfl
                rw [hpd] at hst
                rw [HT.out] at ca fa cb fb hst
                have hje : t1 + (j - 1) = t1 + j - 1 := by omega
                have hpg : ¬ p = g := HS.out.apart
                have hgp : ¬ g = p := fun h => hpg h.symm
                have hjj : ¬ t1 + j = t1 + j - 1 := by omega
                have hjj2 : ¬ t1 + j - 1 = t1 + j := by omega
                rw [hje] at cb fb hst
                have HS2 := Lib.hid hst
                clear hst HS hpl hpd hrv z1 z2 hje
                generalize rv i j = va at *
                generalize rev32 va = vr at *
                generalize p1 s (rv i (j - 1)) = vb at *
                have hsm : (vr : Int) * 2 ^ s % 4294967296 = ((vr * 2 ^ s % 4294967296 : Nat) : Int) := by simp
                generalize vr * 2 ^ s % 4294967296 = vm at *
                generalize (vb ||| vm) = vo at *
                have hw1 : IntKind.u64.wrap (32 - (s : Int)) = 32 - (s : Int) := by rw [IntKind.wrap_u64]; omega
                go_wp2_with fail
                refine (HRev.out _).mono ?_
                rintro e wj ⟨rfl, rfl⟩
                go_wp2
                go_roundw
                case rel => exact ⟨j + 1, by omega, by omega, by go_num, by first | exact HS2 | (rw [hor]; exact HS2)⟩
                case measure => simp [intOf]; omega
              · obtain rfl : j = R := by omega
                have HS2 : Hid (RotS w wj p g W H j n (roF s j rv (i + 1) 0)) := Lib.hid (HS.out.congr (fun r q _ hq => roF_row s j rv i r q hq))
                go_wp2
                go_roundw
                case rel => exact ⟨i + 1, by omega, by go_num, HS2⟩
                case measure => simp [intOf]; omega
          · obtain rfl : i = H := by omega
            have hS := HS.out.congr (fun r q hr _ => roF_end s R i rv r q hr)
            have hmat : MatAt wi p g W i (fun x y => f (W - 1 - x) (i - 1 - y)) := MatAt.of_words (hS.words.bits HR.out (fun x y hx hy => HBit.out x y hx hy)) (by rw [HR.out, HNN.out]; exact hS.head) hS.apart
            have hbe := hS.below
            have HM := Lib.hid (And.intro hmat hbe)
            clear hmat hbe hS HS
            go_wp2
            refine bodyPost_end (results_none rfl _ _ _) rfl ?_
            exact ⟨rfl, HM.out.1, HM.out.2⟩
      · have hpi : (((H : Int) % 2) != 0) = true := by rw [bne_iff_ne]; omega
        have hh2 : H - 1 - i = i := by have := HI.out; omega
        have hH2 : H = 2 * i + 1 := by have := HI.out; omega
        have e1 : (R : Int) * ((H : Int) - 1) / 2 = ((i * R : Nat) : Int) := by
          have h1 : (H : Int) - 1 = 2 * (i : Int) := by omega
          have h2 : (R : Int) * (2 * (i : Int)) = 2 * ((i * R : Nat) : Int) := by
            rw [Int.natCast_mul]; ac_rfl
          rw [h1, h2]; omega
        have k0 : R * (H - 1) ≤ 129 * 4096 := Nat.mul_le_mul hRW (by omega)
        have e0 : (R : Int) * ((H : Int) - 1) = ((R * (H - 1) : Nat) : Int) := by
          have h1 : (H : Int) - 1 = ((H - 1 : Nat) : Int) := by omega
          rw [h1]; simp
        rw [e0] at e1
        generalize R * (H - 1) = m0 at *
        have k1 : i * R ≤ 4096 * 129 := Nat.mul_le_mul (by omega) hRW
        generalize ht1 : i * R = t1 at *
        have HT2 := Lib.hid (And.intro ht1.symm (show t1 = (H - 1 - i) * R by rw [hh2, ht1])); clear ht1
        have HH2 := Lib.hid (And.intro hh2 hH2); clear hh2 hH2
        go_wp2_with fail
        clear e0 e1
        go_loopw [11] (fun jv wi => ∃ j : Nat, j ≤ R / 2 ∧ jv = .int .i64 j ∧ Hid (RotS w wi p g W H R n (swF H R o i j))) (fun jv _ => R / 2 - (intOf jv).toNat)
        case atStart => exact ⟨0, Nat.zero_le _, rfl, HS⟩
        case round =>
          rename World => wi
          clear HS
          obtain ⟨j, hj, rfl, HS⟩ := hrel
          by_cases hjl : j < R / 2
          · have htj : decide ((j : Int) < (R : Int) / 2) = true := by simp; omega
            have hiH : i < H := by have := HH2.out.2; omega
            have hsw : i < H - 1 - i ∨ (i = H - 1 - i ∧ j < R - 1 - j) := .inr ⟨HH2.out.1.symm, by omega⟩
            obtain ⟨_, _, _, c3⟩ := HS.out.heads
            obtain ⟨sa, sb⟩ := swF_at H R o i j (by omega) hsw
            obtain ⟨ca, fa⟩ := HS.out.words.cell (r := i) (q := j) (by omega) (by omega)
            obtain ⟨cb, fb⟩ := HS.out.words.cell (r := H - 1 - i) (q := R - 1 - j) (by omega) (by omega)
            have la := HS.out.words.lt (r := i) (q := j) (by omega) (by omega)
            have lb := HS.out.words.lt (r := H - 1 - i) (q := R - 1 - j) (by omega) (by omega)
            rw [sa] at ca la
            rw [sb] at cb lb
            have hp1 := row_lt (R := R) (H := H) (r := i) (q := j) (by omega) (by omega)
            have hp2 := row_lt (R := R) (H := H) (r := H - 1 - i) (q := R - 1 - j) (by omega) (by omega)
            have hst := ((HS.out.drew.put (r := i) (q := j) (by omega) (by omega) (o (H - 1 - i) (R - 1 - j)) lb).put (r := H - 1 - i) (q := R - 1 - j) (by omega) (by omega) (o i j) la).congr (swF_step H R o i j (by omega) (by omega) hsw)
            have HS2 := Lib.hid hst
            have hne : ¬ (i * R + j = (H - 1 - i) * R + (R - 1 - j)) := fun he => by
              obtain ⟨h5, h6⟩ := row_inj (by omega) (by omega) he
              have := HH2.out.1
              omega
            clear hst HS sa sb
            generalize o i j = va at *
            generalize o (H - 1 - i) (R - 1 - j) = vb at *
            rw [HNN.out] at hp1 hp2
            rw [← HT2.out.1] at ca fa hp1
            rw [← HT2.out.2] at cb fb hp2
            rw [← HT2.out.1, ← HT2.out.2] at hne HS2
            have hrj : ((t1 : Int) + (R : Int) - 1 - (j : Int)).toNat = t1 + (R - 1 - j) := by omega
            have hs0 : ((t1 : Int) + (j : Int)).toNat = t1 + j := by omega
            have i1 : (0 : Int) ≤ (t1 : Int) + (j : Int) := by omega
            have i2 : (t1 : Int) + (j : Int) < (n : Int) := by omega
            have i3 : (0 : Int) ≤ (t1 : Int) + (R : Int) - 1 - (j : Int) := by omega
            have i5 : (j : Int) ≤ (t1 : Int) + (R : Int) - 1 := by omega
            have i4 : (t1 : Int) + (R : Int) - 1 - (j : Int) < (n : Int) := by omega
            go_wp2_with fail
            refine Can2.wp_region_can (fun nC w' => Can2.two (w'.cell? ⟨p, 3, none⟩ = some (.slice (some ⟨g, 0, none⟩) n n) ∧ w'.cell? ⟨g, t1 + j, none⟩ = some (.int .u32 va) ∧ w'.frozen? ⟨g, t1 + j, none⟩ = false ∧ w'.cell? ⟨g, t1 + (R - 1 - j), none⟩ = some (.int .u32 vb) ∧ w'.frozen? ⟨g, t1 + (R - 1 - j), none⟩ = false) (w'.cell? ⟨g, t1 + (R - 1 - j), none⟩ = some (.int .u32 vb) ∧ w'.frozen? ⟨g, t1 + (R - 1 - j), none⟩ = false) nC) [25] 27 [0, 1, 2, 3, 4, 5, 6, 7, 8, 9, 10, 11, 12, 13, 14, 15, 16, 17, 18, 19, 20, 21, 22, 23, 24, 25, 26, 27] 1 rfl (by kernel_rfl) (by kernel_rfl) (fun _ _ d _ _ h => by cases d <;> exact h) (Can2.mk1 ⟨c3, ca, fa, cb, fb⟩) (fun hHeld => ?_)
            repeat (refine Can2.can_pure (n := 1) (v := ?_) rfl rfl rfl (Or.inl ⟨by rfl, ?_⟩) ?_; rotate_left; (focus ((intro w hSw); (try simp only [Can2.two_1] at hSw); go_simp; (try with_reducible rfl))); (try simp only [Act.put, List.getElem_toArray, List.getElem_cons_succ, List.getElem_cons_zero, List.setIfInBounds_toArray, List.set_cons_zero, List.set_cons_succ]))
            have hA := Can2.of1 hHeld
            have hc1 := hA.2.1
            have hf1 := hA.2.2.1
            have hc2 := hA.2.2.2.1
            have hf2 := hA.2.2.2.2
            refine Can2.can_eff (n := 0) rfl rfl rfl (by rfl) (fun K hK => ?_)
            go_simp
            refine hK.out _ _ (Can2.mk0 ⟨by go_simp, by go_simp⟩) (fun hHeld1 => ?_)
            clear hK K
            (try simp only [Act.put, List.getElem_toArray, List.getElem_cons_succ, List.getElem_cons_zero, List.setIfInBounds_toArray, List.set_cons_zero, List.set_cons_succ])
            have hB0 := Can2.of0 hHeld1
            have hc3 := hB0.1
            have hf3 := hB0.2
            repeat (refine Can2.can_pure (n := 0) (v := ?_) rfl rfl rfl (Or.inl ⟨by rfl, ?_⟩) ?_; rotate_left; (focus ((intro w hSw); (try simp only [Can2.two_0] at hSw); go_simp; (try with_reducible rfl))); (try simp only [Act.put, List.getElem_toArray, List.getElem_cons_succ, List.getElem_cons_zero, List.setIfInBounds_toArray, List.set_cons_zero, List.set_cons_succ]))
            refine Can2.can_tail rfl rfl (by rfl) (fun K hK => ?_)
            go_simp
            refine hK.out _ _ ?_
            clear hK K
            clear hHeld hHeld1 hA hc1 hf1 hc2 hf2 hB0 hc3 hf3 ca cb fa fb c3 hrj hs0 i1 i2 i3 i4 i5 hp1 hp2 hne
            go_wp2
            go_roundw
            case rel => exact ⟨j + 1, by omega, by go_num, HS2⟩
            case measure => simp [intOf]; omega
          · have htj : decide ((j : Int) < (R : Int) / 2) = false := by simp; omega
            have HS1 : Hid (RotS w wi p g W H R n (fun r q => o (H - 1 - r) (R - 1 - q))) := Lib.hid (HS.out.congr (fun r q hr hq => by
              have e9 : j = R / 2 := by omega
              rw [HI.out, e9]; exact swF_odd H R o r q hr hq hpar))
            clear HS hj hjl
            obtain ⟨c0, _, _, _⟩ := HS1.out.heads
            go_wp2_with fail
            clear htj
            clear c0 hpi ht hsW
            generalize hrv : (fun r q => o (H - 1 - r) (R - 1 - q)) = rv at *
            have HRV := Lib.hid hrv; clear hrv
            have HS2 : Hid (RotS w wi p g W H R n (roF s R rv 0 0)) := Lib.hid (HS1.out.congr (fun r q _ _ => (roF_zero s R rv r q).symm))
            clear HS1
            go_loopw [15] (fun iv wi => ∃ i : Nat, i ≤ H ∧ iv = .int .i64 i ∧ Hid (RotS w wi p g W H R n (roF s R rv i 0))) (fun iv _ => H - (intOf iv).toNat)
            case atStart => exact ⟨0, Nat.zero_le _, rfl, HS2⟩
            case round =>
              rename World => wi
              clear HS2
              obtain ⟨i, hi, rfl, HS⟩ := hrel
              by_cases hlt : i < H
              · have e1 : (R : Int) * (i : Int) = ((i * R : Nat) : Int) := by simp [Int.mul_comm]
                obtain ⟨_, _, _, c3⟩ := HS.out.heads
                have hz : roF s R rv i 0 i 0 = rv i 0 := by unfold roF; rw [if_neg (by omega), if_pos rfl, if_neg (by omega), if_neg (by omega)]
                obtain ⟨ca, fa⟩ := HS.out.words.cell (r := i) (q := 0) hlt (by omega)
                have la := HS.out.words.lt (r := i) (q := 0) hlt (by omega)
                rw [hz] at ca la
                rw [Nat.add_zero] at ca fa
                have hp1 := row_lt (R := R) (H := H) (r := i) (q := 0) hlt (by omega)
                rw [HNN.out, Nat.add_zero] at hp1
                have hpl : p1 s (rv i 0) < 4294967296 := by unfold p1; exact Nat.lt_of_le_of_lt (Nat.div_le_self _ _) (rev32_lt _ la)
                have hst := ((HS.out.drew.put (r := i) (q := 0) hlt (by omega) (p1 s (rv i 0)) hpl).congr (fun r q _ _ => roF_first s R rv i r q))
                rw [Nat.add_zero] at hst
                have hrl := rev32_lt _ la
                have hpd : p1 s (rv i 0) = rev32 (rv i 0) / 2 ^ (32 - s) := rfl
                rw [hpd] at hst
                have HS2 := Lib.hid hst
                have hrv := fun w' => reverse_any (rv i 0) w' la
                have HRev := Lib.hid hrv
                clear hst HS hz hpl hpd hrv
                have k1 : i * R ≤ 4096 * 129 := Nat.mul_le_mul (by omega) hRW
                generalize ht1 : i * R = t1 at *
                have HT := Lib.hid ht1; clear ht1
                generalize rv i 0 = va at *
                generalize rev32 va = vr at *
                have hw1 : IntKind.u64.wrap (32 - (s : Int)) = 32 - (s : Int) := by rw [IntKind.wrap_u64]; omega
                have hw2 : (32 - (s : Int)).toNat = 32 - s := by omega
                have i1 : (0 : Int) ≤ (t1 : Int) := by omega
                have i2 : (t1 : Int) < (n : Int) := by omega
                go_wp2_with fail
                refine Can.wp_region_can (fun w' => w'.cell? ⟨p, 3, none⟩ = some (.slice (some ⟨g, 0, none⟩) n n) ∧ w'.cell? ⟨g, t1, none⟩ = some (.int .u32 va) ∧ w'.frozen? ⟨g, t1, none⟩ = false) 17 [0, 1, 2, 3, 4, 5, 6, 7, 8, 9, 10, 11, 13, 14, 12, 15, 16, 17] (by kernel_rfl) (by kernel_rfl) (fun _ _ d _ _ h => by cases d <;> exact h) ⟨c3, ca, fa⟩ (fun hHeld => ?_)
                repeat (refine Can.can_pure (v := ?_) rfl rfl (Or.inl ⟨by rfl, ?_⟩) ?_; rotate_left; (focus ((intro w hSw); (try dsimp only at hSw); go_simp; (try with_reducible rfl))); (try simp only [Act.put, List.getElem_toArray, List.getElem_cons_succ, List.getElem_cons_zero, List.setIfInBounds_toArray, List.set_cons_zero, List.set_cons_succ]))
                refine Can.can_eff rfl rfl (by rfl) (fun K hK => ?_)
                go_simp
                refine (HRev.out _).mono ?_
                rintro e w5 ⟨rfl, rfl⟩
                refine hK.out _ _ hHeld (fun hHeld1 => ?_)
                clear hK K
                (try simp only [Act.put, List.getElem_toArray, List.getElem_cons_succ, List.getElem_cons_zero, List.setIfInBounds_toArray, List.set_cons_zero, List.set_cons_succ])
                repeat (refine Can.can_pure (v := ?_) rfl rfl (Or.inl ⟨by rfl, ?_⟩) ?_; rotate_left; (focus ((intro w hSw); (try dsimp only at hSw); go_simp; (try with_reducible rfl))); (try simp only [Act.put, List.getElem_toArray, List.getElem_cons_succ, List.getElem_cons_zero, List.setIfInBounds_toArray, List.set_cons_zero, List.set_cons_succ]))
                have c9 := hHeld1.2.1
                have f9 := hHeld1.2.2
                refine Can.can_tail rfl rfl (by rfl) (fun K hK => ?_)
                go_simp
                refine hK.out _ _ ?_
                clear hK K
                clear hHeld hHeld1 c9 f9 ca fa c3 i1 i2 hw1 HRev
                go_wp2_with fail
                go_loopw [17] (fun jv wi => ∃ j : Nat, 1 ≤ j ∧ j ≤ R ∧ jv = .int .i64 j ∧ Hid (RotS w wi p g W H R n (roF s R rv i j))) (fun jv _ => R - (intOf jv).toNat)
                case atStart => exact ⟨1, Nat.le_refl _, hR1, rfl, HS2⟩
                case round =>
                  rename World => wj
                  clear HS2
                  obtain ⟨j, hj1, hj, rfl, HS⟩ := hrel
                  by_cases hjl : j < R
                  · obtain ⟨_, _, _, c3⟩ := HS.out.heads
                    obtain ⟨z1, z2⟩ := roF_at s R rv i j hj1
                    obtain ⟨ca, fa⟩ := HS.out.words.cell (r := i) (q := j) hlt hjl
                    have la := HS.out.words.lt (r := i) (q := j) hlt hjl
                    obtain ⟨cb, fb⟩ := HS.out.words.cell (r := i) (q := j - 1) hlt (by omega)
                    have lb := HS.out.words.lt (r := i) (q := j - 1) hlt (by omega)
                    rw [z2] at ca la
                    rw [z1] at cb lb
                    have hp1 := row_lt (R := R) (H := H) (r := i) (q := j) hlt hjl
                    rw [HNN.out, HT.out] at hp1
                    have hrl := rev32_lt _ la
                    have hpl : p1 s (rv i j) < 4294967296 := by unfold p1; exact Nat.lt_of_le_of_lt (Nat.div_le_self _ _) hrl
                    have hml : rev32 (rv i j) * 2 ^ s % 4294967296 < 4294967296 := Nat.mod_lt _ (by decide)
                    have hol : (p1 s (rv i (j - 1)) ||| rev32 (rv i j) * 2 ^ s % 4294967296) < 4294967296 := Nat.or_lt_two_pow (n := 32) lb hml
                    have hst := ((HS.out.put (r := i) (q := j - 1) hlt (by omega) _ hol).put (r := i) (q := j) hlt hjl (p1 s (rv i j)) hpl).congr (fun r q _ _ => roF_step s R rv i j hj1 hjl r q)
                    have hor := u32_or (p1 s (rv i (j - 1))) (rev32 (rv i j) * 2 ^ s % 4294967296) lb hml
                    have hrv := fun w' => reverse_any (rv i j) w' la
                    have HRev := Lib.hid hrv
                    have hpd : p1 s (rv i j) = rev32 (rv i j) / 2 ^ (32 - s) := rfl
                    rw [hpd] at hst
                    rw [HT.out] at ca fa cb fb hst
                    have hje : t1 + (j - 1) = t1 + j - 1 := by omega
                    have hpg : ¬ p = g := HS.out.apart
                    have hgp : ¬ g = p := fun h => hpg h.symm
                    have hjj : ¬ t1 + j = t1 + j - 1 := by omega
                    have hjj2 : ¬ t1 + j - 1 = t1 + j := by omega
                    rw [hje] at cb fb hst
                    have HS2 := Lib.hid hst
                    clear hst HS hpl hpd hrv z1 z2 hje
                    generalize rv i j = va at *
                    generalize rev32 va = vr at *
                    generalize p1 s (rv i (j - 1)) = vb at *
                    have hsm : (vr : Int) * 2 ^ s % 4294967296 = ((vr * 2 ^ s % 4294967296 : Nat) : Int) := by simp
                    generalize vr * 2 ^ s % 4294967296 = vm at *
                    generalize (vb ||| vm) = vo at *
                    have hw1 : IntKind.u64.wrap (32 - (s : Int)) = 32 - (s : Int) := by rw [IntKind.wrap_u64]; omega
                    go_wp2_with fail
                    refine (HRev.out _).mono ?_
                    rintro e wj ⟨rfl, rfl⟩
                    go_wp2
                    go_roundw
                    case rel => exact ⟨j + 1, by omega, by omega, by go_num, by first | exact HS2 | (rw [hor]; exact HS2)⟩
                    case measure => simp [intOf]; omega
                  · obtain rfl : j = R := by omega
                    have HS2 : Hid (RotS w wj p g W H j n (roF s j rv (i + 1) 0)) := Lib.hid (HS.out.congr (fun r q _ hq => roF_row s j rv i r q hq))
                    go_wp2
                    go_roundw
                    case rel => exact ⟨i + 1, by omega, by go_num, HS2⟩
                    case measure => simp [intOf]; omega
              · obtain rfl : i = H := by omega
                have hS := HS.out.congr (fun r q hr _ => roF_end s R i rv r q hr)
                have hmat : MatAt wi p g W i (fun x y => f (W - 1 - x) (i - 1 - y)) := MatAt.of_words (hS.words.bits HR.out (fun x y hx hy => HBit.out x y hx hy)) (by rw [HR.out, HNN.out]; exact hS.head) hS.apart
                have hbe := hS.below
                have HM := Lib.hid (And.intro hmat hbe)
                clear hmat hbe hS HS
                go_wp2
                refine bodyPost_end (results_none rfl _ _ _) rfl ?_
                exact ⟨rfl, HM.out.1, HM.out.2⟩
end Go.Proofs.Ytbfkjfgjeaofpaa
