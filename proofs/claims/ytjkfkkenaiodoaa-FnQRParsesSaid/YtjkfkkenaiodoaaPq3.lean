/-
  PLAIN: what a segment of data words says. WALK: spec.qrSaid.
-/
import Derived.Test.YtjkfkkenaiodoaaPq2
namespace Go.Proofs.Ytjkfkkenaiodoaa
open Go.RowKit

theorem info_u8P : (Try.prog.info? 5).map (fun i => (i.zero, i.size, i.bytes)) = some (some (.int .u8 0), 1, 1) := by kernel_rfl
/-- How many signs are taken at once, in how many bits, below which number. -/
def wkK (mode c : Nat) : Nat × Nat × Nat :=
  if mode = 1 then (if 3 ≤ c then (3, 10, 1000) else if c = 2 then (2, 7, 100) else (1, 4, 10)) else if mode = 2 then (if 2 ≤ c then (2, 11, 2025) else (1, 6, 45)) else (1, 8, 256)
def dvK (i : Nat) : Nat := [1, 1, 10, 100].getD i 1
def dgK (n i : Nat) : UInt8 := UInt8.ofNat (48 + n / dvK i % 10)
/-- The signs that a number says. -/
def chK (mode k n : Nat) : List UInt8 :=
  if mode = 1 then (List.range k).map (fun j => dgK n (k - j)) else if mode = 2 then (if k = 2 then [UInt8.ofNat (alphaB (n / 45)), UInt8.ofNat (alphaB (n % 45))] else [UInt8.ofNat (alphaB n)]) else [UInt8.ofNat n]
/-- The signs of a segment, and where it ends; none: it is broken. -/
def segS (bs : List Nat) (mode : Nat) : Nat → Nat → Nat → List UInt8 → Option (List UInt8 × Nat)
  | 0, _, pos, out => some (out, pos)
  | f + 1, c, pos, out => if c = 0 then some (out, pos) else if 8 * bs.length < pos + (wkK mode c).2.1 then none else if (wkK mode c).2.2 ≤ rb bs pos (wkK mode c).2.1 then none else
      segS bs mode f (c - (wkK mode c).1) (pos + (wkK mode c).2.1) (out ++ chK mode (wkK mode c).1 (rb bs pos (wkK mode c).2.1))
theorem segS_end (bs : List Nat) (mode f pos : Nat) (out : List UInt8) : segS bs mode f 0 pos out = some (out, pos) := by
  cases f <;> simp [segS]
theorem segS_step (bs : List Nat) (mode f c pos : Nat) (out : List UInt8) (k wd lim : Nat) (hk : wkK mode c = (k, wd, lim)) (hc : 0 < c) (hf : c ≤ f) :
    ∃ f', f = f' + 1 ∧ segS bs mode f c pos out = (if 8 * bs.length < pos + wd then none else if lim ≤ rb bs pos wd then none else segS bs mode f' (c - k) (pos + wd) (out ++ chK mode k (rb bs pos wd))) := by
  obtain ⟨f', rfl⟩ : ∃ f', f = f' + 1 := ⟨f - 1, by omega⟩
  refine ⟨f', rfl, ?_⟩
  rw [segS, if_neg (by omega), hk]
theorem bl_single (n : Nat) (h : n < 256) : bl [UInt8.ofNat n] = [.int .u8 (n : Int)] := by
  simp [bl]; omega
/-- What is left to be read. -/
structure Left (bs : List Nat) (off o n cap pos : Nat) : Prop where
  sum : n + pos = 8 * bs.length
  le : n ≤ cap
  max : cap ≤ 9223372036854775807
  at_ : 0 < n → o = off + pos
/-- What the walk of a segment ends with. -/
def SaidQ (bs : List Nat) (b off : Nat) (R : Option (List UInt8 × Nat)) (e : Ending) (w' : World) : Prop :=
  (R = none ∧ e = .returned (.tuple #[.slice none 0 0, .slice none 0 0, .bool false])) ∨
  (∃ t p2 v o2 n2 c2, R = some (t, p2) ∧ e = .returned (.tuple #[v, .slice (some ⟨b, o2, none⟩) n2 c2, .bool true]) ∧ RdT w' 5 v (bl t) ∧ Left bs off o2 n2 c2 p2)
set_option maxRecDepth 100000 in
set_option maxHeartbeats 4000000 in
theorem qrSaid_4 (bs : List Nat) (b off o n cap pos count : Nat) (R : Option (List UInt8 × Nat)) (w : World) (h : BitsL w b off bs) (hL : Left bs off o n cap pos) (_hl : bs.length ≤ 2147483647) (hc : count ≤ 65535) (hR : segS bs 4 count count pos [] = R) :
    Calls Try.prog 14 #[.slice (some ⟨b, o, none⟩) n cap, .int .i64 4, .int .i64 count] w fun e w' => Below w.heap.size w w' ∧ SaidQ bs b off R e w' := by
  obtain ⟨i0, hi0, hz0, hz1, hz2⟩ := info_parts info_u8P
  have hnc := hL.le
  have hcm := hL.max
  have hsum := hL.sum
  have HLF := Lib.hid hL
  have HR := Lib.hid hR
  have HBL := Lib.hid h
  clear hL hR h
  go_enter Try.func14, Try.ntmps14
  go_wp2_with fail
  -- 4 = the mode
  go_loopw [0, 2, 9] (fun lv cv ov wr => ∃ (f c pos m cp o k : Nat) (out : List UInt8), c ≤ f ∧ k + c ≤ 65535 ∧ lv = .slice (some ⟨b, o, none⟩) m cp ∧ cv = .int .i64 (c : Int) ∧ m ≤ 8 * bs.length ∧ cp ≤ 9223372036854775807 ∧ m ≤ cp ∧ Hid (Left bs off o m cp pos) ∧ Hid (wr.ownsRow w.heap.size 5 1 ov k (bl out)) ∧ Hid (segS bs 4 f c pos out = R) ∧ Hid (Below w.heap.size w wr)) (fun _ cv _ _ => (intOf cv).toNat)
  case atStart => exact ⟨count, count, pos, n, cap, o, 0, [], Nat.le_refl _, by omega, rfl, rfl, by omega, hcm, hnc, HLF, by simpa [bl] using Lib.hid (own_nil w w.heap.size 5), HR, Lib.hid (brf w)⟩
  case round =>
    clear HLF HR hnc hcm hsum
    obtain ⟨f, c, pos, m, cp, o, k, out, hcf, hkc, rfl, rfl, hm, hcp, hmcp, HLF, HO, HSG, HB⟩ := hrel
    rename World => wr
    by_cases h0 : 0 < c
    · obtain ⟨f', hf', hst⟩ := segS_step bs 4 f c pos out 1 8 256 rfl h0 hcf
      have hsum := HLF.out.sum
      by_cases h8 : 8 ≤ m
      · have hz := rb_lt bs pos 8
        rw [if_neg (by omega), if_neg (by omega)] at hst
        -- 8 = how many bits; 4 = the mode; 1 = how many signs: they are there, and the number is small enough (hst is the step)
        have ho := HLF.out.at_ (by omega)
        have htk : Calls Try.prog 12 #[.slice (some ⟨b, off + pos, none⟩) m cp, .int .i64 8] wr fun e w' => ∃ o', e = .returned (.tuple #[.int .i64 (rb bs pos 8 : Nat), .slice (some ⟨b, o', none⟩) (m - 8) (cp - 8), .bool true]) ∧ (8 < m → o' = off + (pos + 8)) ∧ Below wr.heap.size wr w' := qrTake_yes bs b off m cp pos 8 wr (fun j hj => by rw [below_cells HB.out b _ (by have := HBL.out j hj; exact World.block_lt_of_cell? w _ this)]; exact HBL.out j hj) hsum (by omega) (by decide) hmcp hcp
        rw [← ho] at htk
        clear ho
        obtain ⟨z, hzv⟩ : ∃ z, z = rb bs pos 8 := ⟨_, rfl⟩
        rw [← hzv] at hz htk
        go_wp2_with fail
        refine htk.mono ?_
        rintro e w2 ⟨o2, rfl, ho2, hb2⟩
        clear htk
        -- 8 = how many bits, 1 = how many signs, chK 4 1 z = their list: the state behind the number
        have HLF2 : Hid (Left bs off o2 (m - 8) (cp - 8) (pos + 8)) := Lib.hid ⟨by omega, by omega, by omega, fun hp => ho2 (by omega)⟩
        have HSG2 : Hid (segS bs 4 f' (c - 1) (pos + 8) (out ++ chK 4 1 z) = R) := Lib.hid (by rw [← HSG.out, hst, hzv])
        have HB2 := Lib.hid (bup HB.out hb2)
        have HO2 := Lib.hid (own_up HO.out hb2)
        have HC2 : Hid ((c : Int) - 1 = ((c - 1 : Nat) : Int)) := Lib.hid (by omega)
        have hm2 : m - 8 ≤ 8 * bs.length := by omega
        have hcp2 : cp - 8 ≤ 9223372036854775807 := by omega
        have hmcp2 : m - 8 ≤ cp - 8 := by omega
        have hcf2 : c - 1 ≤ f' := by omega
        have hkc2 : k + 1 + (c - 1) ≤ 65535 := by omega
        clear hb2 HB HO HLF HSG hst ho2 hsum
        clear hzv
        go_wp2_with (with_reducible refine stop_at (o := ⟨some 28, _, _, _, _, _⟩) ?_)
        refine Lib.hid ?_
        refine list_app_rd _ rfl _ _ 22 rfl w.heap.size 5 i0 _ 1 Try.underlying22 hi0 hz0 hz1 hz2 rfl _ k _ rfl (own_up HO2.out (bal (brf w2) _)) _ _ [.int .u8 (z : Int)] rfl (Rd.one rfl _ _) (fun u hu => by simp at hu; subst hu; rfl) (by simp only [List.length_singleton]; unfold maxLen; omega) (by simp only [List.length_singleton]; omega) (by have := HB2.out.size; simp; omega) ?_
        intro v1 w3 ho1 hg1
        have HO3 : Hid (w3.ownsRow w.heap.size 5 1 v1 (k + 1) (bl (out ++ chK 4 1 z))) := Lib.hid (by
          have e : chK 4 1 z = [UInt8.ofNat z] := rfl
          rw [e, bl_app, bl_single z hz]; exact ho1)
        have HB3 : Hid (Below w.heap.size w w3) := Lib.hid (below_grown (bal HB2.out _) hg1 (own_up HO2.out (bal (brf w2) _)) (by have := HB2.out.size; simp; omega))
        clear ho1 hg1 HO2 HB2
        go_wp2_with fail
        go_roundw
        case rel => exact ⟨f', c - 1, pos + 8, m - 8, cp - 8, o2, k + 1, _, hcf2, hkc2, rfl, by rw [← HC2.out], hm2, hcp2, hmcp2, HLF2, HO3, HSG2, HB3⟩
        case measure => simp [intOf]; omega
      · -- too few bits: the step's equation hst
        rw [if_pos (by omega)] at hst
        have hr : R = none := by rw [← HSG.out]; exact hst
        have HRN := Lib.hid hr
        clear hr hst HSG
        have htk : Calls Try.prog 12 #[.slice (some ⟨b, o, none⟩) m cp, .int .i64 8] wr fun e w' => e = .returned (.tuple #[.int .i64 0, .slice (some ⟨b, o, none⟩) m cp, .bool false]) ∧ w' = wr := qrTake_no (some ⟨b, o, none⟩) m cp 8 wr (by omega) (by decide) hmcp hcp
        go_wp2_with fail
        refine htk.mono ?_
        rintro e wr ⟨rfl, rfl⟩
        go_wp2_with fail
        go_ret3
        exact ⟨HB.out, .inl ⟨HRN.out, rfl⟩⟩
    · -- no sign more
      obtain rfl : c = 0 := by omega
      have hr := HSG.out
      rw [segS_end] at hr
      have hrd := RdT.of_own HO.out
      go_wp2_with fail
      go_ret3
      exact ⟨HB.out, .inr ⟨_, _, _, _, _, _, hr.symm, rfl, hrd, HLF.out⟩⟩
theorem ixWd1 (w : World) : (Instr.index 61 (.agg #[.int .i64 0, .int .i64 4, .int .i64 7, .int .i64 10]) (.int .i64 1)).run Try.prog w = .ok (.int .i64 4) w := by kernel_rfl
theorem ixWd2 (w : World) : (Instr.index 61 (.agg #[.int .i64 0, .int .i64 4, .int .i64 7, .int .i64 10]) (.int .i64 2)).run Try.prog w = .ok (.int .i64 7) w := by kernel_rfl
theorem ixWd3 (w : World) : (Instr.index 61 (.agg #[.int .i64 0, .int .i64 4, .int .i64 7, .int .i64 10]) (.int .i64 3)).run Try.prog w = .ok (.int .i64 10) w := by kernel_rfl
theorem ixLim1 (w : World) : (Instr.index 61 (.agg #[.int .i64 1, .int .i64 10, .int .i64 100, .int .i64 1000]) (.int .i64 1)).run Try.prog w = .ok (.int .i64 10) w := by kernel_rfl
theorem ixLim2 (w : World) : (Instr.index 61 (.agg #[.int .i64 1, .int .i64 10, .int .i64 100, .int .i64 1000]) (.int .i64 2)).run Try.prog w = .ok (.int .i64 100) w := by kernel_rfl
theorem ixLim3 (w : World) : (Instr.index 61 (.agg #[.int .i64 1, .int .i64 10, .int .i64 100, .int .i64 1000]) (.int .i64 3)).run Try.prog w = .ok (.int .i64 1000) w := by kernel_rfl
theorem ixDv1 (w : World) : (Instr.index 61 (.agg #[.int .i64 1, .int .i64 1, .int .i64 10, .int .i64 100]) (.int .i64 1)).run Try.prog w = .ok (.int .i64 1) w := by kernel_rfl
theorem ixDv2 (w : World) : (Instr.index 61 (.agg #[.int .i64 1, .int .i64 1, .int .i64 10, .int .i64 100]) (.int .i64 2)).run Try.prog w = .ok (.int .i64 10) w := by kernel_rfl
theorem ixDv3 (w : World) : (Instr.index 61 (.agg #[.int .i64 1, .int .i64 1, .int .i64 10, .int .i64 100]) (.int .i64 3)).run Try.prog w = .ok (.int .i64 100) w := by kernel_rfl
set_option maxRecDepth 100000 in
set_option maxHeartbeats 4000000 in
theorem qrSaid_1 (bs : List Nat) (b off o n cap pos count : Nat) (R : Option (List UInt8 × Nat)) (w : World) (h : BitsL w b off bs) (hL : Left bs off o n cap pos) (_hl : bs.length ≤ 2147483647) (hc : count ≤ 65535) (hR : segS bs 1 count count pos [] = R) :
    Calls Try.prog 14 #[.slice (some ⟨b, o, none⟩) n cap, .int .i64 1, .int .i64 count] w fun e w' => Below w.heap.size w w' ∧ SaidQ bs b off R e w' := by
  obtain ⟨i0, hi0, hz0, hz1, hz2⟩ := info_parts info_u8P
  have hnc := hL.le
  have hcm := hL.max
  have hsum := hL.sum
  have HLF := Lib.hid hL
  have HR := Lib.hid hR
  have HBL := Lib.hid h
  clear hL hR h
  go_enter Try.func14, Try.ntmps14
  go_wp2_with fail
  -- 1 = the mode
  go_loopw [0, 2, 9] (fun lv cv ov wr => ∃ (f c pos m cp o k : Nat) (out : List UInt8), c ≤ f ∧ k + c ≤ 65535 ∧ lv = .slice (some ⟨b, o, none⟩) m cp ∧ cv = .int .i64 (c : Int) ∧ m ≤ 8 * bs.length ∧ cp ≤ 9223372036854775807 ∧ m ≤ cp ∧ Hid (Left bs off o m cp pos) ∧ Hid (wr.ownsRow w.heap.size 5 1 ov k (bl out)) ∧ Hid (segS bs 1 f c pos out = R) ∧ Hid (Below w.heap.size w wr)) (fun _ cv _ _ => (intOf cv).toNat)
  case atStart => exact ⟨count, count, pos, n, cap, o, 0, [], Nat.le_refl _, by omega, rfl, rfl, by omega, hcm, hnc, HLF, by simpa [bl] using Lib.hid (own_nil w w.heap.size 5), HR, Lib.hid (brf w)⟩
  case round =>
    clear HLF HR hnc hcm hsum
    obtain ⟨f, c, pos, m, cp, o, k, out, hcf, hkc, rfl, rfl, hm, hcp, hmcp, HLF, HO, HSG, HB⟩ := hrel
    rename World => wr
    by_cases h0 : 0 < c
    · have hsum := HLF.out.sum
      by_cases h3 : 3 ≤ c
      · have hmin : min (3 : Int) (c : Int) = 3 := by omega
        -- k = 3 signs, 10 bits, below 1000
        have x1 := ixWd3
        have x2 := ixLim3
        obtain ⟨f', hf', hst⟩ := segS_step bs 1 f c pos out 3 10 1000 (by unfold wkK; rw [if_pos rfl, if_pos h3]) h0 hcf
        by_cases h8 : 10 ≤ m
        · have hz := rb_lt bs pos 10
          -- 10 = how many bits; 1 = the mode; 3 = how many signs: they are there, and the number is small enough (hst is the step)
          have ho := HLF.out.at_ (by omega)
          have htk : Calls Try.prog 12 #[.slice (some ⟨b, off + pos, none⟩) m cp, .int .i64 10] wr fun e w' => ∃ o', e = .returned (.tuple #[.int .i64 (rb bs pos 10 : Nat), .slice (some ⟨b, o', none⟩) (m - 10) (cp - 10), .bool true]) ∧ (10 < m → o' = off + (pos + 10)) ∧ Below wr.heap.size wr w' := qrTake_yes bs b off m cp pos 10 wr (fun j hj => by rw [below_cells HB.out b _ (by have := HBL.out j hj; exact World.block_lt_of_cell? w _ this)]; exact HBL.out j hj) hsum (by omega) (by decide) hmcp hcp
          rw [← ho] at htk
          clear ho
          obtain ⟨z, hzv⟩ : ∃ z, z = rb bs pos 10 := ⟨_, rfl⟩
          rw [← hzv] at hz htk hst
          rw [if_neg (by omega)] at hst
          by_cases hlim : 1000 ≤ z
          · rw [if_pos hlim] at hst
            have hr : R = none := by rw [← HSG.out]; exact hst
            have HRN := Lib.hid hr
            clear hr hst HSG hzv
            go_wp2_with fail
            refine htk.mono ?_
            rintro e w2 ⟨o2, rfl, ho2, hb2⟩
            clear htk
            have HB2 := Lib.hid (bup HB.out hb2)
            clear hb2
            go_wp2_with fail
            go_ret3
            exact ⟨HB2.out, .inl ⟨HRN.out, rfl⟩⟩
          · rw [if_neg hlim] at hst
            have hzl : z < 1000 := by omega
            go_wp2_with fail
            refine htk.mono ?_
            rintro e w2 ⟨o2, rfl, ho2, hb2⟩
            clear htk
            -- 10 = how many bits, 3 = how many signs, chK 1 3 z = their list: the state behind the number
            have HLF2 : Hid (Left bs off o2 (m - 10) (cp - 10) (pos + 10)) := Lib.hid ⟨by omega, by omega, by omega, fun hp => ho2 (by omega)⟩
            have HSG2 : Hid (segS bs 1 f' (c - 3) (pos + 10) (out ++ chK 1 3 z) = R) := Lib.hid (by rw [← HSG.out, hst, hzv])
            have HB2 := Lib.hid (bup HB.out hb2)
            have HO2 := Lib.hid (own_up HO.out hb2)
            have HC2 : Hid ((c : Int) - 3 = ((c - 3 : Nat) : Int)) := Lib.hid (by omega)
            have hm2 : m - 10 ≤ 8 * bs.length := by omega
            have hcp2 : cp - 10 ≤ 9223372036854775807 := by omega
            have hmcp2 : m - 10 ≤ cp - 10 := by omega
            have hcf2 : c - 3 ≤ f' := by omega
            have hkc2 : k + 3 + (c - 3) ≤ 65535 := by omega
            clear hb2 HB HO HLF HSG hst ho2 hsum
            clear hzv
            go_wp2_with fail
            clear x1 x2
            go_loopw [9, 13] (fun ov iv wi => ∃ (i : Nat), i ≤ 3 ∧ iv = .int .i64 (i : Int) ∧ Hid (wi.ownsRow w.heap.size 5 1 ov (k + (3 - i)) (bl (out ++ (List.range (3 - i)).map (fun j => dgK z (3 - j))))) ∧ Hid (Below w.heap.size w wi)) (fun _ iv _ => (intOf iv).toNat)
            case atStart => exact ⟨3, Nat.le_refl _, rfl, by simpa using HO2, HB2⟩
            case round =>
              clear HO2 HB2
              obtain ⟨i, hi, rfl, HO, HB⟩ := hrel
              rename World => wi
              by_cases hip : 0 < i
              · have hk : i = 1 ∨ i = 2 ∨ i = 3 := by omega
                rcases hk with rfl | rfl | rfl
                · -- digit i = 1 of K = 3, by 1
                  have x3 := ixDv1
                  obtain ⟨q, hq⟩ : ∃ q, q = z / 1 := ⟨_, rfl⟩
                  obtain ⟨r, hr⟩ : ∃ r, r = q % 10 := ⟨_, rfl⟩
                  obtain ⟨y, hy⟩ : ∃ y, y = 48 + r := ⟨_, rfl⟩
                  have d1 : Int.tdiv (z : Int) 1 = (q : Int) := by rw [Int.tdiv_eq_ediv_of_nonneg (by omega)]; omega
                  have d2 : (z : Int) / 1 = (q : Int) := by omega
                  have d3 : Int.tmod (q : Int) 10 = (r : Int) := by rw [Int.tmod_eq_emod_of_nonneg (by omega)]; omega
                  have d4 : (q : Int) % 10 = (r : Int) := by omega
                  have d5 : (48 : Int) + (r : Int) = (y : Int) := by omega
                  have hq2 : q ≤ 1000 := by omega
                  have hr2 : r < 10 := by omega
                  have hy2 : y < 256 := by omega
                  have HDG : Hid (bl [dgK z 1] = [.int .u8 (y : Int)]) := Lib.hid (by
                    rw [← bl_single y hy2]
                    unfold dgK
                    rw [hy, hr, hq]; rfl)
                  clear hq hr hy
                  go_wp2_with (with_reducible refine stop_at (o := ⟨some 69, _, _, _, _, _⟩) ?_)
                  refine Lib.hid ?_
                  clear d1 d2 d3 d4 d5 x3
                  refine list_app_rd _ rfl _ _ 22 rfl w.heap.size 5 i0 _ 1 Try.underlying22 hi0 hz0 hz1 hz2 rfl _ (k + (3 - 1)) _ rfl (own_up HO.out (bal (brf wi) _)) _ _ [.int .u8 (y : Int)] rfl (Rd.one rfl _ _) (fun u hu => by simp at hu; subst hu; rfl) (by simp only [List.length_singleton]; unfold maxLen; omega) (by simp only [List.length_singleton]; omega) (by have := HB.out.size; simp; omega) ?_
                  intro v1 w3 ho1 hg1
                  have HO3 : Hid (w3.ownsRow w.heap.size 5 1 v1 (k + (3 - (1 - 1))) (bl (out ++ (List.range (3 - (1 - 1))).map (fun j => dgK z (3 - j))))) := Lib.hid (by
                    have e : (List.range (3 - (1 - 1))).map (fun j => dgK z (3 - j)) = (List.range (3 - 1)).map (fun j => dgK z (3 - j)) ++ [dgK z 1] := rfl
                    rw [e, ← List.append_assoc, bl_app, HDG.out]; exact ho1)
                  have HB3 : Hid (Below w.heap.size w w3) := Lib.hid (below_grown (bal HB.out _) hg1 (own_up HO.out (bal (brf wi) _)) (by have := HB.out.size; simp; omega))
                  clear ho1 hg1 HO HB HDG
                  go_wp2_with fail
                  go_roundw
                  case rel => exact ⟨1 - 1, by decide, rfl, HO3, HB3⟩
                  case measure => simp [intOf]
                · -- digit i = 2 of K = 3, by 10
                  have x3 := ixDv2
                  obtain ⟨q, hq⟩ : ∃ q, q = z / 10 := ⟨_, rfl⟩
                  obtain ⟨r, hr⟩ : ∃ r, r = q % 10 := ⟨_, rfl⟩
                  obtain ⟨y, hy⟩ : ∃ y, y = 48 + r := ⟨_, rfl⟩
                  have d1 : Int.tdiv (z : Int) 10 = (q : Int) := by rw [Int.tdiv_eq_ediv_of_nonneg (by omega)]; omega
                  have d2 : (z : Int) / 10 = (q : Int) := by omega
                  have d3 : Int.tmod (q : Int) 10 = (r : Int) := by rw [Int.tmod_eq_emod_of_nonneg (by omega)]; omega
                  have d4 : (q : Int) % 10 = (r : Int) := by omega
                  have d5 : (48 : Int) + (r : Int) = (y : Int) := by omega
                  have hq2 : q ≤ 1000 := by omega
                  have hr2 : r < 10 := by omega
                  have hy2 : y < 256 := by omega
                  have HDG : Hid (bl [dgK z 2] = [.int .u8 (y : Int)]) := Lib.hid (by
                    rw [← bl_single y hy2]
                    unfold dgK
                    rw [hy, hr, hq]; rfl)
                  clear hq hr hy
                  go_wp2_with (with_reducible refine stop_at (o := ⟨some 69, _, _, _, _, _⟩) ?_)
                  refine Lib.hid ?_
                  clear d1 d2 d3 d4 d5 x3
                  refine list_app_rd _ rfl _ _ 22 rfl w.heap.size 5 i0 _ 1 Try.underlying22 hi0 hz0 hz1 hz2 rfl _ (k + (3 - 2)) _ rfl (own_up HO.out (bal (brf wi) _)) _ _ [.int .u8 (y : Int)] rfl (Rd.one rfl _ _) (fun u hu => by simp at hu; subst hu; rfl) (by simp only [List.length_singleton]; unfold maxLen; omega) (by simp only [List.length_singleton]; omega) (by have := HB.out.size; simp; omega) ?_
                  intro v1 w3 ho1 hg1
                  have HO3 : Hid (w3.ownsRow w.heap.size 5 1 v1 (k + (3 - (2 - 1))) (bl (out ++ (List.range (3 - (2 - 1))).map (fun j => dgK z (3 - j))))) := Lib.hid (by
                    have e : (List.range (3 - (2 - 1))).map (fun j => dgK z (3 - j)) = (List.range (3 - 2)).map (fun j => dgK z (3 - j)) ++ [dgK z 2] := rfl
                    rw [e, ← List.append_assoc, bl_app, HDG.out]; exact ho1)
                  have HB3 : Hid (Below w.heap.size w w3) := Lib.hid (below_grown (bal HB.out _) hg1 (own_up HO.out (bal (brf wi) _)) (by have := HB.out.size; simp; omega))
                  clear ho1 hg1 HO HB HDG
                  go_wp2_with fail
                  go_roundw
                  case rel => exact ⟨2 - 1, by decide, rfl, HO3, HB3⟩
                  case measure => simp [intOf]
                · -- digit i = 3 of K = 3, by 100
                  have x3 := ixDv3
                  obtain ⟨q, hq⟩ : ∃ q, q = z / 100 := ⟨_, rfl⟩
                  obtain ⟨r, hr⟩ : ∃ r, r = q % 10 := ⟨_, rfl⟩
                  obtain ⟨y, hy⟩ : ∃ y, y = 48 + r := ⟨_, rfl⟩
                  have d1 : Int.tdiv (z : Int) 100 = (q : Int) := by rw [Int.tdiv_eq_ediv_of_nonneg (by omega)]; omega
                  have d2 : (z : Int) / 100 = (q : Int) := by omega
                  have d3 : Int.tmod (q : Int) 10 = (r : Int) := by rw [Int.tmod_eq_emod_of_nonneg (by omega)]; omega
                  have d4 : (q : Int) % 10 = (r : Int) := by omega
                  have d5 : (48 : Int) + (r : Int) = (y : Int) := by omega
                  have hq2 : q ≤ 1000 := by omega
                  have hr2 : r < 10 := by omega
                  have hy2 : y < 256 := by omega
                  have HDG : Hid (bl [dgK z 3] = [.int .u8 (y : Int)]) := Lib.hid (by
                    rw [← bl_single y hy2]
                    unfold dgK
                    rw [hy, hr, hq]; rfl)
                  clear hq hr hy
                  go_wp2_with (with_reducible refine stop_at (o := ⟨some 69, _, _, _, _, _⟩) ?_)
                  refine Lib.hid ?_
                  clear d1 d2 d3 d4 d5 x3
                  refine list_app_rd _ rfl _ _ 22 rfl w.heap.size 5 i0 _ 1 Try.underlying22 hi0 hz0 hz1 hz2 rfl _ (k + (3 - 3)) _ rfl (own_up HO.out (bal (brf wi) _)) _ _ [.int .u8 (y : Int)] rfl (Rd.one rfl _ _) (fun u hu => by simp at hu; subst hu; rfl) (by simp only [List.length_singleton]; unfold maxLen; omega) (by simp only [List.length_singleton]; omega) (by have := HB.out.size; simp; omega) ?_
                  intro v1 w3 ho1 hg1
                  have HO3 : Hid (w3.ownsRow w.heap.size 5 1 v1 (k + (3 - (3 - 1))) (bl (out ++ (List.range (3 - (3 - 1))).map (fun j => dgK z (3 - j))))) := Lib.hid (by
                    have e : (List.range (3 - (3 - 1))).map (fun j => dgK z (3 - j)) = (List.range (3 - 3)).map (fun j => dgK z (3 - j)) ++ [dgK z 3] := rfl
                    rw [e, ← List.append_assoc, bl_app, HDG.out]; exact ho1)
                  have HB3 : Hid (Below w.heap.size w w3) := Lib.hid (below_grown (bal HB.out _) hg1 (own_up HO.out (bal (brf wi) _)) (by have := HB.out.size; simp; omega))
                  clear ho1 hg1 HO HB HDG
                  go_wp2_with fail
                  go_roundw
                  case rel => exact ⟨3 - 1, by decide, rfl, HO3, HB3⟩
                  case measure => simp [intOf]
              · obtain rfl : i = 0 := by omega
                go_wp2_with fail
                go_roundw
                case rel => exact ⟨f', c - 3, pos + 10, m - 10, cp - 10, o2, k + 3, _, hcf2, hkc2, rfl, by rw [← HC2.out], hm2, hcp2, hmcp2, HLF2, HO, HSG2, HB⟩
                case measure => simp [intOf]; omega
        · -- too few bits: the step's equation hst
          rw [if_pos (by omega)] at hst
          have hr : R = none := by rw [← HSG.out]; exact hst
          have HRN := Lib.hid hr
          clear hr hst HSG
          have htk : Calls Try.prog 12 #[.slice (some ⟨b, o, none⟩) m cp, .int .i64 10] wr fun e w' => e = .returned (.tuple #[.int .i64 0, .slice (some ⟨b, o, none⟩) m cp, .bool false]) ∧ w' = wr := qrTake_no (some ⟨b, o, none⟩) m cp 10 wr (by omega) (by decide) hmcp hcp
          go_wp2_with fail
          refine htk.mono ?_
          rintro e wr ⟨rfl, rfl⟩
          go_wp2_with fail
          go_ret3
          exact ⟨HB.out, .inl ⟨HRN.out, rfl⟩⟩
      · by_cases h2 : c = 2
        · have hmin : min (3 : Int) (c : Int) = 2 := by omega
          have hw : wkK 1 c = (2, 7, 100) := by unfold wkK; rw [if_pos rfl, if_neg h3, if_pos h2]
          have hc2 : 2 ≤ c ∧ c ≤ 2 := by omega
          clear h2 h3
          -- k = 2 signs, 7 bits, below 100
          have x1 := ixWd2
          have x2 := ixLim2
          obtain ⟨f', hf', hst⟩ := segS_step bs 1 f c pos out 2 7 100 (hw) h0 hcf
          by_cases h8 : 7 ≤ m
          · have hz := rb_lt bs pos 7
            -- 7 = how many bits; 1 = the mode; 2 = how many signs: they are there, and the number is small enough (hst is the step)
            have ho := HLF.out.at_ (by omega)
            have htk : Calls Try.prog 12 #[.slice (some ⟨b, off + pos, none⟩) m cp, .int .i64 7] wr fun e w' => ∃ o', e = .returned (.tuple #[.int .i64 (rb bs pos 7 : Nat), .slice (some ⟨b, o', none⟩) (m - 7) (cp - 7), .bool true]) ∧ (7 < m → o' = off + (pos + 7)) ∧ Below wr.heap.size wr w' := qrTake_yes bs b off m cp pos 7 wr (fun j hj => by rw [below_cells HB.out b _ (by have := HBL.out j hj; exact World.block_lt_of_cell? w _ this)]; exact HBL.out j hj) hsum (by omega) (by decide) hmcp hcp
            rw [← ho] at htk
            clear ho
            obtain ⟨z, hzv⟩ : ∃ z, z = rb bs pos 7 := ⟨_, rfl⟩
            rw [← hzv] at hz htk hst
            rw [if_neg (by omega)] at hst
            by_cases hlim : 100 ≤ z
            · rw [if_pos hlim] at hst
              have hr : R = none := by rw [← HSG.out]; exact hst
              have HRN := Lib.hid hr
              clear hr hst HSG hzv
              go_wp2_with fail
              refine htk.mono ?_
              rintro e w2 ⟨o2, rfl, ho2, hb2⟩
              clear htk
              have HB2 := Lib.hid (bup HB.out hb2)
              clear hb2
              go_wp2_with fail
              go_ret3
              exact ⟨HB2.out, .inl ⟨HRN.out, rfl⟩⟩
            · rw [if_neg hlim] at hst
              have hzl : z < 100 := by omega
              go_wp2_with fail
              refine htk.mono ?_
              rintro e w2 ⟨o2, rfl, ho2, hb2⟩
              clear htk
              -- 7 = how many bits, 2 = how many signs, chK 1 2 z = their list: the state behind the number
              have HLF2 : Hid (Left bs off o2 (m - 7) (cp - 7) (pos + 7)) := Lib.hid ⟨by omega, by omega, by omega, fun hp => ho2 (by omega)⟩
              have HSG2 : Hid (segS bs 1 f' (c - 2) (pos + 7) (out ++ chK 1 2 z) = R) := Lib.hid (by rw [← HSG.out, hst, hzv])
              have HB2 := Lib.hid (bup HB.out hb2)
              have HO2 := Lib.hid (own_up HO.out hb2)
              have HC2 : Hid ((c : Int) - 2 = ((c - 2 : Nat) : Int)) := Lib.hid (by omega)
              have hm2 : m - 7 ≤ 8 * bs.length := by omega
              have hcp2 : cp - 7 ≤ 9223372036854775807 := by omega
              have hmcp2 : m - 7 ≤ cp - 7 := by omega
              have hcf2 : c - 2 ≤ f' := by omega
              have hkc2 : k + 2 + (c - 2) ≤ 65535 := by omega
              clear hb2 HB HO HLF HSG hst ho2 hsum
              clear hzv
              go_wp2_with fail
              clear x1 x2
              go_loopw [9, 13] (fun ov iv wi => ∃ (i : Nat), i ≤ 2 ∧ iv = .int .i64 (i : Int) ∧ Hid (wi.ownsRow w.heap.size 5 1 ov (k + (2 - i)) (bl (out ++ (List.range (2 - i)).map (fun j => dgK z (2 - j))))) ∧ Hid (Below w.heap.size w wi)) (fun _ iv _ => (intOf iv).toNat)
              case atStart => exact ⟨2, Nat.le_refl _, rfl, by simpa using HO2, HB2⟩
              case round =>
                clear HO2 HB2
                obtain ⟨i, hi, rfl, HO, HB⟩ := hrel
                rename World => wi
                by_cases hip : 0 < i
                · have hk : i = 1 ∨ i = 2 := by omega
                  rcases hk with rfl | rfl
                  · -- digit i = 1 of K = 2, by 1
                    have x3 := ixDv1
                    obtain ⟨q, hq⟩ : ∃ q, q = z / 1 := ⟨_, rfl⟩
                    obtain ⟨r, hr⟩ : ∃ r, r = q % 10 := ⟨_, rfl⟩
                    obtain ⟨y, hy⟩ : ∃ y, y = 48 + r := ⟨_, rfl⟩
                    have d1 : Int.tdiv (z : Int) 1 = (q : Int) := by rw [Int.tdiv_eq_ediv_of_nonneg (by omega)]; omega
                    have d2 : (z : Int) / 1 = (q : Int) := by omega
                    have d3 : Int.tmod (q : Int) 10 = (r : Int) := by rw [Int.tmod_eq_emod_of_nonneg (by omega)]; omega
                    have d4 : (q : Int) % 10 = (r : Int) := by omega
                    have d5 : (48 : Int) + (r : Int) = (y : Int) := by omega
                    have hq2 : q ≤ 1000 := by omega
                    have hr2 : r < 10 := by omega
                    have hy2 : y < 256 := by omega
                    have HDG : Hid (bl [dgK z 1] = [.int .u8 (y : Int)]) := Lib.hid (by
                      rw [← bl_single y hy2]
                      unfold dgK
                      rw [hy, hr, hq]; rfl)
                    clear hq hr hy
                    go_wp2_with (with_reducible refine stop_at (o := ⟨some 69, _, _, _, _, _⟩) ?_)
                    refine Lib.hid ?_
                    clear d1 d2 d3 d4 d5 x3
                    refine list_app_rd _ rfl _ _ 22 rfl w.heap.size 5 i0 _ 1 Try.underlying22 hi0 hz0 hz1 hz2 rfl _ (k + (2 - 1)) _ rfl (own_up HO.out (bal (brf wi) _)) _ _ [.int .u8 (y : Int)] rfl (Rd.one rfl _ _) (fun u hu => by simp at hu; subst hu; rfl) (by simp only [List.length_singleton]; unfold maxLen; omega) (by simp only [List.length_singleton]; omega) (by have := HB.out.size; simp; omega) ?_
                    intro v1 w3 ho1 hg1
                    have HO3 : Hid (w3.ownsRow w.heap.size 5 1 v1 (k + (2 - (1 - 1))) (bl (out ++ (List.range (2 - (1 - 1))).map (fun j => dgK z (2 - j))))) := Lib.hid (by
                      have e : (List.range (2 - (1 - 1))).map (fun j => dgK z (2 - j)) = (List.range (2 - 1)).map (fun j => dgK z (2 - j)) ++ [dgK z 1] := rfl
                      rw [e, ← List.append_assoc, bl_app, HDG.out]; exact ho1)
                    have HB3 : Hid (Below w.heap.size w w3) := Lib.hid (below_grown (bal HB.out _) hg1 (own_up HO.out (bal (brf wi) _)) (by have := HB.out.size; simp; omega))
                    clear ho1 hg1 HO HB HDG
                    go_wp2_with fail
                    go_roundw
                    case rel => exact ⟨1 - 1, by decide, rfl, HO3, HB3⟩
                    case measure => simp [intOf]
                  · -- digit i = 2 of K = 2, by 10
                    have x3 := ixDv2
                    obtain ⟨q, hq⟩ : ∃ q, q = z / 10 := ⟨_, rfl⟩
                    obtain ⟨r, hr⟩ : ∃ r, r = q % 10 := ⟨_, rfl⟩
                    obtain ⟨y, hy⟩ : ∃ y, y = 48 + r := ⟨_, rfl⟩
                    have d1 : Int.tdiv (z : Int) 10 = (q : Int) := by rw [Int.tdiv_eq_ediv_of_nonneg (by omega)]; omega
                    have d2 : (z : Int) / 10 = (q : Int) := by omega
                    have d3 : Int.tmod (q : Int) 10 = (r : Int) := by rw [Int.tmod_eq_emod_of_nonneg (by omega)]; omega
                    have d4 : (q : Int) % 10 = (r : Int) := by omega
                    have d5 : (48 : Int) + (r : Int) = (y : Int) := by omega
                    have hq2 : q ≤ 1000 := by omega
                    have hr2 : r < 10 := by omega
                    have hy2 : y < 256 := by omega
                    have HDG : Hid (bl [dgK z 2] = [.int .u8 (y : Int)]) := Lib.hid (by
                      rw [← bl_single y hy2]
                      unfold dgK
                      rw [hy, hr, hq]; rfl)
                    clear hq hr hy
                    go_wp2_with (with_reducible refine stop_at (o := ⟨some 69, _, _, _, _, _⟩) ?_)
                    refine Lib.hid ?_
                    clear d1 d2 d3 d4 d5 x3
                    refine list_app_rd _ rfl _ _ 22 rfl w.heap.size 5 i0 _ 1 Try.underlying22 hi0 hz0 hz1 hz2 rfl _ (k + (2 - 2)) _ rfl (own_up HO.out (bal (brf wi) _)) _ _ [.int .u8 (y : Int)] rfl (Rd.one rfl _ _) (fun u hu => by simp at hu; subst hu; rfl) (by simp only [List.length_singleton]; unfold maxLen; omega) (by simp only [List.length_singleton]; omega) (by have := HB.out.size; simp; omega) ?_
                    intro v1 w3 ho1 hg1
                    have HO3 : Hid (w3.ownsRow w.heap.size 5 1 v1 (k + (2 - (2 - 1))) (bl (out ++ (List.range (2 - (2 - 1))).map (fun j => dgK z (2 - j))))) := Lib.hid (by
                      have e : (List.range (2 - (2 - 1))).map (fun j => dgK z (2 - j)) = (List.range (2 - 2)).map (fun j => dgK z (2 - j)) ++ [dgK z 2] := rfl
                      rw [e, ← List.append_assoc, bl_app, HDG.out]; exact ho1)
                    have HB3 : Hid (Below w.heap.size w w3) := Lib.hid (below_grown (bal HB.out _) hg1 (own_up HO.out (bal (brf wi) _)) (by have := HB.out.size; simp; omega))
                    clear ho1 hg1 HO HB HDG
                    go_wp2_with fail
                    go_roundw
                    case rel => exact ⟨2 - 1, by decide, rfl, HO3, HB3⟩
                    case measure => simp [intOf]
                · obtain rfl : i = 0 := by omega
                  go_wp2_with fail
                  go_roundw
                  case rel => exact ⟨f', c - 2, pos + 7, m - 7, cp - 7, o2, k + 2, _, hcf2, hkc2, rfl, by rw [← HC2.out], hm2, hcp2, hmcp2, HLF2, HO, HSG2, HB⟩
                  case measure => simp [intOf]; omega
          · -- too few bits: the step's equation hst
            rw [if_pos (by omega)] at hst
            have hr : R = none := by rw [← HSG.out]; exact hst
            have HRN := Lib.hid hr
            clear hr hst HSG
            have htk : Calls Try.prog 12 #[.slice (some ⟨b, o, none⟩) m cp, .int .i64 7] wr fun e w' => e = .returned (.tuple #[.int .i64 0, .slice (some ⟨b, o, none⟩) m cp, .bool false]) ∧ w' = wr := qrTake_no (some ⟨b, o, none⟩) m cp 7 wr (by omega) (by decide) hmcp hcp
            go_wp2_with fail
            refine htk.mono ?_
            rintro e wr ⟨rfl, rfl⟩
            go_wp2_with fail
            go_ret3
            exact ⟨HB.out, .inl ⟨HRN.out, rfl⟩⟩
        · have hmin : min (3 : Int) (c : Int) = 1 := by omega
          have hw : wkK 1 c = (1, 4, 10) := by unfold wkK; rw [if_pos rfl, if_neg h3, if_neg h2]
          have hc2 : 1 ≤ c ∧ c ≤ 1 := by omega
          clear h2 h3
          -- k = 1 signs, 4 bits, below 10
          have x1 := ixWd1
          have x2 := ixLim1
          obtain ⟨f', hf', hst⟩ := segS_step bs 1 f c pos out 1 4 10 (hw) h0 hcf
          by_cases h8 : 4 ≤ m
          · have hz := rb_lt bs pos 4
            -- 4 = how many bits; 1 = the mode; 1 = how many signs: they are there, and the number is small enough (hst is the step)
            have ho := HLF.out.at_ (by omega)
            have htk : Calls Try.prog 12 #[.slice (some ⟨b, off + pos, none⟩) m cp, .int .i64 4] wr fun e w' => ∃ o', e = .returned (.tuple #[.int .i64 (rb bs pos 4 : Nat), .slice (some ⟨b, o', none⟩) (m - 4) (cp - 4), .bool true]) ∧ (4 < m → o' = off + (pos + 4)) ∧ Below wr.heap.size wr w' := qrTake_yes bs b off m cp pos 4 wr (fun j hj => by rw [below_cells HB.out b _ (by have := HBL.out j hj; exact World.block_lt_of_cell? w _ this)]; exact HBL.out j hj) hsum (by omega) (by decide) hmcp hcp
            rw [← ho] at htk
            clear ho
            obtain ⟨z, hzv⟩ : ∃ z, z = rb bs pos 4 := ⟨_, rfl⟩
            rw [← hzv] at hz htk hst
            rw [if_neg (by omega)] at hst
            by_cases hlim : 10 ≤ z
            · rw [if_pos hlim] at hst
              have hr : R = none := by rw [← HSG.out]; exact hst
              have HRN := Lib.hid hr
              clear hr hst HSG hzv
              go_wp2_with fail
              refine htk.mono ?_
              rintro e w2 ⟨o2, rfl, ho2, hb2⟩
              clear htk
              have HB2 := Lib.hid (bup HB.out hb2)
              clear hb2
              go_wp2_with fail
              go_ret3
              exact ⟨HB2.out, .inl ⟨HRN.out, rfl⟩⟩
            · rw [if_neg hlim] at hst
              have hzl : z < 10 := by omega
              go_wp2_with fail
              refine htk.mono ?_
              rintro e w2 ⟨o2, rfl, ho2, hb2⟩
              clear htk
              -- 4 = how many bits, 1 = how many signs, chK 1 1 z = their list: the state behind the number
              have HLF2 : Hid (Left bs off o2 (m - 4) (cp - 4) (pos + 4)) := Lib.hid ⟨by omega, by omega, by omega, fun hp => ho2 (by omega)⟩
              have HSG2 : Hid (segS bs 1 f' (c - 1) (pos + 4) (out ++ chK 1 1 z) = R) := Lib.hid (by rw [← HSG.out, hst, hzv])
              have HB2 := Lib.hid (bup HB.out hb2)
              have HO2 := Lib.hid (own_up HO.out hb2)
              have HC2 : Hid ((c : Int) - 1 = ((c - 1 : Nat) : Int)) := Lib.hid (by omega)
              have hm2 : m - 4 ≤ 8 * bs.length := by omega
              have hcp2 : cp - 4 ≤ 9223372036854775807 := by omega
              have hmcp2 : m - 4 ≤ cp - 4 := by omega
              have hcf2 : c - 1 ≤ f' := by omega
              have hkc2 : k + 1 + (c - 1) ≤ 65535 := by omega
              clear hb2 HB HO HLF HSG hst ho2 hsum
              clear hzv
              go_wp2_with fail
              clear x1 x2
              go_loopw [9, 13] (fun ov iv wi => ∃ (i : Nat), i ≤ 1 ∧ iv = .int .i64 (i : Int) ∧ Hid (wi.ownsRow w.heap.size 5 1 ov (k + (1 - i)) (bl (out ++ (List.range (1 - i)).map (fun j => dgK z (1 - j))))) ∧ Hid (Below w.heap.size w wi)) (fun _ iv _ => (intOf iv).toNat)
              case atStart => exact ⟨1, Nat.le_refl _, rfl, by simpa using HO2, HB2⟩
              case round =>
                clear HO2 HB2
                obtain ⟨i, hi, rfl, HO, HB⟩ := hrel
                rename World => wi
                by_cases hip : 0 < i
                · obtain rfl : i = 1 := by omega
                  -- digit i = 1 of K = 1, by 1
                  have x3 := ixDv1
                  obtain ⟨q, hq⟩ : ∃ q, q = z / 1 := ⟨_, rfl⟩
                  obtain ⟨r, hr⟩ : ∃ r, r = q % 10 := ⟨_, rfl⟩
                  obtain ⟨y, hy⟩ : ∃ y, y = 48 + r := ⟨_, rfl⟩
                  have d1 : Int.tdiv (z : Int) 1 = (q : Int) := by rw [Int.tdiv_eq_ediv_of_nonneg (by omega)]; omega
                  have d2 : (z : Int) / 1 = (q : Int) := by omega
                  have d3 : Int.tmod (q : Int) 10 = (r : Int) := by rw [Int.tmod_eq_emod_of_nonneg (by omega)]; omega
                  have d4 : (q : Int) % 10 = (r : Int) := by omega
                  have d5 : (48 : Int) + (r : Int) = (y : Int) := by omega
                  have hq2 : q ≤ 1000 := by omega
                  have hr2 : r < 10 := by omega
                  have hy2 : y < 256 := by omega
                  have HDG : Hid (bl [dgK z 1] = [.int .u8 (y : Int)]) := Lib.hid (by
                    rw [← bl_single y hy2]
                    unfold dgK
                    rw [hy, hr, hq]; rfl)
                  clear hq hr hy
                  go_wp2_with (with_reducible refine stop_at (o := ⟨some 69, _, _, _, _, _⟩) ?_)
                  refine Lib.hid ?_
                  clear d1 d2 d3 d4 d5 x3
                  refine list_app_rd _ rfl _ _ 22 rfl w.heap.size 5 i0 _ 1 Try.underlying22 hi0 hz0 hz1 hz2 rfl _ (k + (1 - 1)) _ rfl (own_up HO.out (bal (brf wi) _)) _ _ [.int .u8 (y : Int)] rfl (Rd.one rfl _ _) (fun u hu => by simp at hu; subst hu; rfl) (by simp only [List.length_singleton]; unfold maxLen; omega) (by simp only [List.length_singleton]; omega) (by have := HB.out.size; simp; omega) ?_
                  intro v1 w3 ho1 hg1
                  have HO3 : Hid (w3.ownsRow w.heap.size 5 1 v1 (k + (1 - (1 - 1))) (bl (out ++ (List.range (1 - (1 - 1))).map (fun j => dgK z (1 - j))))) := Lib.hid (by
                    have e : (List.range (1 - (1 - 1))).map (fun j => dgK z (1 - j)) = (List.range (1 - 1)).map (fun j => dgK z (1 - j)) ++ [dgK z 1] := rfl
                    rw [e, ← List.append_assoc, bl_app, HDG.out]; exact ho1)
                  have HB3 : Hid (Below w.heap.size w w3) := Lib.hid (below_grown (bal HB.out _) hg1 (own_up HO.out (bal (brf wi) _)) (by have := HB.out.size; simp; omega))
                  clear ho1 hg1 HO HB HDG
                  go_wp2_with fail
                  go_roundw
                  case rel => exact ⟨1 - 1, by decide, rfl, HO3, HB3⟩
                  case measure => simp [intOf]
                · obtain rfl : i = 0 := by omega
                  go_wp2_with fail
                  go_roundw
                  case rel => exact ⟨f', c - 1, pos + 4, m - 4, cp - 4, o2, k + 1, _, hcf2, hkc2, rfl, by rw [← HC2.out], hm2, hcp2, hmcp2, HLF2, HO, HSG2, HB⟩
                  case measure => simp [intOf]; omega
          · -- too few bits: the step's equation hst
            rw [if_pos (by omega)] at hst
            have hr : R = none := by rw [← HSG.out]; exact hst
            have HRN := Lib.hid hr
            clear hr hst HSG
            have htk : Calls Try.prog 12 #[.slice (some ⟨b, o, none⟩) m cp, .int .i64 4] wr fun e w' => e = .returned (.tuple #[.int .i64 0, .slice (some ⟨b, o, none⟩) m cp, .bool false]) ∧ w' = wr := qrTake_no (some ⟨b, o, none⟩) m cp 4 wr (by omega) (by decide) hmcp hcp
            go_wp2_with fail
            refine htk.mono ?_
            rintro e wr ⟨rfl, rfl⟩
            go_wp2_with fail
            go_ret3
            exact ⟨HB.out, .inl ⟨HRN.out, rfl⟩⟩
    · -- no sign more
      obtain rfl : c = 0 := by omega
      have hr := HSG.out
      rw [segS_end] at hr
      have hrd := RdT.of_own HO.out
      go_wp2_with fail
      go_ret3
      exact ⟨HB.out, .inr ⟨_, _, _, _, _, _, hr.symm, rfl, hrd, HLF.out⟩⟩
set_option maxRecDepth 100000 in
set_option maxHeartbeats 4000000 in
theorem qrSaid_2 (bs : List Nat) (b off o n cap pos count : Nat) (R : Option (List UInt8 × Nat)) (w : World) (h : BitsL w b off bs) (hL : Left bs off o n cap pos) (_hl : bs.length ≤ 2147483647) (hc : count ≤ 65535) (hR : segS bs 2 count count pos [] = R) :
    Calls Try.prog 14 #[.slice (some ⟨b, o, none⟩) n cap, .int .i64 2, .int .i64 count] w fun e w' => Below w.heap.size w w' ∧ SaidQ bs b off R e w' := by
  -- the head of a walk of mode 2
  obtain ⟨i0, hi0, hz0, hz1, hz2⟩ := info_parts info_u8P
  have hnc := hL.le
  have hcm := hL.max
  have hsum := hL.sum
  have HLF := Lib.hid hL
  have HR := Lib.hid hR
  have HBL := Lib.hid h
  clear hL hR h
  go_enter Try.func14, Try.ntmps14
  go_wp2_with fail
  -- 2 = the mode
  go_loopw [0, 2, 9] (fun lv cv ov wr => ∃ (f c pos m cp o k : Nat) (out : List UInt8), c ≤ f ∧ k + c ≤ 65535 ∧ lv = .slice (some ⟨b, o, none⟩) m cp ∧ cv = .int .i64 (c : Int) ∧ m ≤ 8 * bs.length ∧ cp ≤ 9223372036854775807 ∧ m ≤ cp ∧ Hid (Left bs off o m cp pos) ∧ Hid (wr.ownsRow w.heap.size 5 1 ov k (bl out)) ∧ Hid (segS bs 2 f c pos out = R) ∧ Hid (Below w.heap.size w wr)) (fun _ cv _ _ => (intOf cv).toNat)
  case atStart => exact ⟨count, count, pos, n, cap, o, 0, [], Nat.le_refl _, by omega, rfl, rfl, by omega, hcm, hnc, HLF, by simpa [bl] using Lib.hid (own_nil w w.heap.size 5), HR, Lib.hid (brf w)⟩
  case round =>
    clear HLF HR hnc hcm hsum
    obtain ⟨f, c, pos, m, cp, o, k, out, hcf, hkc, rfl, rfl, hm, hcp, hmcp, HLF, HO, HSG, HB⟩ := hrel
    rename World => wr
    by_cases h0 : 0 < c
    · have hsum := HLF.out.sum
      by_cases h2 : 2 ≤ c
      · obtain ⟨f', hf', hst⟩ := segS_step bs 2 f c pos out 2 11 2025 (by unfold wkK; rw [if_neg (by decide), if_pos rfl, if_pos h2]) h0 hcf
        by_cases h8 : 11 ≤ m
        · have hz := rb_lt bs pos 11
          -- 11 = how many bits; 2 = the mode; 2 = how many signs: they are there, and the number is small enough (hst is the step)
          have ho := HLF.out.at_ (by omega)
          have htk : Calls Try.prog 12 #[.slice (some ⟨b, off + pos, none⟩) m cp, .int .i64 11] wr fun e w' => ∃ o', e = .returned (.tuple #[.int .i64 (rb bs pos 11 : Nat), .slice (some ⟨b, o', none⟩) (m - 11) (cp - 11), .bool true]) ∧ (11 < m → o' = off + (pos + 11)) ∧ Below wr.heap.size wr w' := qrTake_yes bs b off m cp pos 11 wr (fun j hj => by rw [below_cells HB.out b _ (by have := HBL.out j hj; exact World.block_lt_of_cell? w _ this)]; exact HBL.out j hj) hsum (by omega) (by decide) hmcp hcp
          rw [← ho] at htk
          clear ho
          obtain ⟨z, hzv⟩ : ∃ z, z = rb bs pos 11 := ⟨_, rfl⟩
          rw [← hzv] at hz htk hst
          rw [if_neg (by omega)] at hst
          by_cases hlim : 2025 ≤ z
          · rw [if_pos hlim] at hst
            have hr : R = none := by rw [← HSG.out]; exact hst
            have HRN := Lib.hid hr
            clear hr hst HSG hzv
            go_wp2_with fail
            refine htk.mono ?_
            rintro e w2 ⟨o2, rfl, ho2, hb2⟩
            clear htk
            have HB2 := Lib.hid (bup HB.out hb2)
            clear hb2
            go_wp2_with fail
            go_ret3
            exact ⟨HB2.out, .inl ⟨HRN.out, rfl⟩⟩
          · rw [if_neg hlim] at hst
            have hzl : z < 2025 := by omega
            go_wp2_with fail
            refine htk.mono ?_
            rintro e w2 ⟨o2, rfl, ho2, hb2⟩
            clear htk
            -- 11 = how many bits, 2 = how many signs, chK 2 2 z = their list: the state behind the number
            have HLF2 : Hid (Left bs off o2 (m - 11) (cp - 11) (pos + 11)) := Lib.hid ⟨by omega, by omega, by omega, fun hp => ho2 (by omega)⟩
            have HSG2 : Hid (segS bs 2 f' (c - 2) (pos + 11) (out ++ chK 2 2 z) = R) := Lib.hid (by rw [← HSG.out, hst, hzv])
            have HB2 := Lib.hid (bup HB.out hb2)
            have HO2 := Lib.hid (own_up HO.out hb2)
            have HC2 : Hid ((c : Int) - 2 = ((c - 2 : Nat) : Int)) := Lib.hid (by omega)
            have hm2 : m - 11 ≤ 8 * bs.length := by omega
            have hcp2 : cp - 11 ≤ 9223372036854775807 := by omega
            have hmcp2 : m - 11 ≤ cp - 11 := by omega
            have hcf2 : c - 2 ≤ f' := by omega
            have hkc2 : k + 2 + (c - 2) ≤ 65535 := by omega
            clear hb2 HB HO HLF HSG hst ho2 hsum
            clear hzv
            obtain ⟨q, hq⟩ : ∃ q, q = z / 45 := ⟨_, rfl⟩
            obtain ⟨r, hr⟩ : ∃ r, r = z % 45 := ⟨_, rfl⟩
            have d1 : Int.tdiv (z : Int) 45 = (q : Int) := by rw [Int.tdiv_eq_ediv_of_nonneg (by omega)]; omega
            have d2 : (z : Int) / 45 = (q : Int) := by omega
            have d3 : Int.tmod (z : Int) 45 = (r : Int) := by rw [Int.tmod_eq_emod_of_nonneg (by omega)]; omega
            have d4 : (z : Int) % 45 = (r : Int) := by omega
            have hq2 : q < 45 := by omega
            have hr2 : r < 45 := by omega
            have hqb := (alphaB_all q hq2).2.1
            have hrb := (alphaB_all r hr2).2.1
            have HDG : Hid (bl (chK 2 2 z) = [.int .u8 (alphaB q : Nat), .int .u8 (alphaB r : Nat)]) := Lib.hid (by
              have e : chK 2 2 z = [UInt8.ofNat (alphaB (z / 45))] ++ [UInt8.ofNat (alphaB (z % 45))] := rfl
              rw [e, bl_app, ← hq, ← hr, bl_single _ (by omega), bl_single _ (by omega)]; rfl)
            have ha1 := fun w' => alphaByte_any q w' hq2
            have ha2 := fun w' => alphaByte_any r w' hr2
            obtain ⟨aq, haq⟩ : ∃ x, x = alphaB q := ⟨_, rfl⟩
            obtain ⟨ar, har⟩ : ∃ x, x = alphaB r := ⟨_, rfl⟩
            rw [← haq] at ha1 hqb HDG
            rw [← har] at ha2 hrb HDG
            clear hq hr haq har
            go_wp2_with fail
            refine (ha1 _).mono ?_
            rintro e w2 ⟨rfl, rfl⟩
            go_wp2_with fail
            refine (ha2 _).mono ?_
            rintro e w2 ⟨rfl, rfl⟩
            clear ha1 ha2
            go_wp2_with (with_reducible refine stop_at (o := ⟨some 100, _, _, _, _, _⟩) ?_)
            refine Lib.hid ?_
            clear d1 d2 d3 d4
            refine list_app_rd _ rfl _ _ 22 rfl w.heap.size 5 i0 _ 1 Try.underlying22 hi0 hz0 hz1 hz2 rfl _ k _ rfl (own_up HO2.out (bal (brf w2) _)) _ _ [.int .u8 (aq : Int), .int .u8 (ar : Int)] rfl (Rd.of_blk (Blk.fresh w2 _ _) rfl (Nat.le_refl _) (by decide)) (fun u hu => by simp at hu; rcases hu with rfl | rfl <;> rfl) (by simp; unfold maxLen; omega) (by simp; omega) (by have := HB2.out.size; simp; omega) ?_
            intro v1 w3 ho1 hg1
            have HO3 : Hid (w3.ownsRow w.heap.size 5 1 v1 (k + 2) (bl (out ++ chK 2 2 z))) := Lib.hid (by
              rw [bl_app, HDG.out]; exact ho1)
            have HB3 : Hid (Below w.heap.size w w3) := Lib.hid (below_grown (bal HB2.out _) hg1 (own_up HO2.out (bal (brf w2) _)) (by have := HB2.out.size; simp; omega))
            clear ho1 hg1 HO2 HB2 HDG
            go_wp2_with fail
            go_roundw
            case rel => exact ⟨f', c - 2, pos + 11, m - 11, cp - 11, o2, k + 2, _, hcf2, hkc2, rfl, by rw [← HC2.out], hm2, hcp2, hmcp2, HLF2, HO3, HSG2, HB3⟩
            case measure => simp [intOf]; omega
        · -- too few bits: the step's equation hst
          rw [if_pos (by omega)] at hst
          have hr : R = none := by rw [← HSG.out]; exact hst
          have HRN := Lib.hid hr
          clear hr hst HSG
          have htk : Calls Try.prog 12 #[.slice (some ⟨b, o, none⟩) m cp, .int .i64 11] wr fun e w' => e = .returned (.tuple #[.int .i64 0, .slice (some ⟨b, o, none⟩) m cp, .bool false]) ∧ w' = wr := qrTake_no (some ⟨b, o, none⟩) m cp 11 wr (by omega) (by decide) hmcp hcp
          go_wp2_with fail
          refine htk.mono ?_
          rintro e wr ⟨rfl, rfl⟩
          go_wp2_with fail
          go_ret3
          exact ⟨HB.out, .inl ⟨HRN.out, rfl⟩⟩
      · have hc1 : ¬ (2 : Int) ≤ (c : Int) := by omega
        obtain ⟨f', hf', hst⟩ := segS_step bs 2 f c pos out 1 6 45 (by unfold wkK; rw [if_neg (by decide), if_pos rfl, if_neg h2]) h0 hcf
        by_cases h8 : 6 ≤ m
        · have hz := rb_lt bs pos 6
          -- 6 = how many bits; 2 = the mode; 1 = how many signs: they are there, and the number is small enough (hst is the step)
          have ho := HLF.out.at_ (by omega)
          have htk : Calls Try.prog 12 #[.slice (some ⟨b, off + pos, none⟩) m cp, .int .i64 6] wr fun e w' => ∃ o', e = .returned (.tuple #[.int .i64 (rb bs pos 6 : Nat), .slice (some ⟨b, o', none⟩) (m - 6) (cp - 6), .bool true]) ∧ (6 < m → o' = off + (pos + 6)) ∧ Below wr.heap.size wr w' := qrTake_yes bs b off m cp pos 6 wr (fun j hj => by rw [below_cells HB.out b _ (by have := HBL.out j hj; exact World.block_lt_of_cell? w _ this)]; exact HBL.out j hj) hsum (by omega) (by decide) hmcp hcp
          rw [← ho] at htk
          clear ho
          obtain ⟨z, hzv⟩ : ∃ z, z = rb bs pos 6 := ⟨_, rfl⟩
          rw [← hzv] at hz htk hst
          rw [if_neg (by omega)] at hst
          by_cases hlim : 45 ≤ z
          · rw [if_pos hlim] at hst
            have hr : R = none := by rw [← HSG.out]; exact hst
            have HRN := Lib.hid hr
            clear hr hst HSG hzv
            go_wp2_with fail
            refine htk.mono ?_
            rintro e w2 ⟨o2, rfl, ho2, hb2⟩
            clear htk
            have HB2 := Lib.hid (bup HB.out hb2)
            clear hb2
            go_wp2_with fail
            go_ret3
            exact ⟨HB2.out, .inl ⟨HRN.out, rfl⟩⟩
          · rw [if_neg hlim] at hst
            have hzl : z < 45 := by omega
            go_wp2_with fail
            refine htk.mono ?_
            rintro e w2 ⟨o2, rfl, ho2, hb2⟩
            clear htk
            -- 6 = how many bits, 1 = how many signs, chK 2 1 z = their list: the state behind the number
            have HLF2 : Hid (Left bs off o2 (m - 6) (cp - 6) (pos + 6)) := Lib.hid ⟨by omega, by omega, by omega, fun hp => ho2 (by omega)⟩
            have HSG2 : Hid (segS bs 2 f' (c - 1) (pos + 6) (out ++ chK 2 1 z) = R) := Lib.hid (by rw [← HSG.out, hst, hzv])
            have HB2 := Lib.hid (bup HB.out hb2)
            have HO2 := Lib.hid (own_up HO.out hb2)
            have HC2 : Hid ((c : Int) - 1 = ((c - 1 : Nat) : Int)) := Lib.hid (by omega)
            have hm2 : m - 6 ≤ 8 * bs.length := by omega
            have hcp2 : cp - 6 ≤ 9223372036854775807 := by omega
            have hmcp2 : m - 6 ≤ cp - 6 := by omega
            have hcf2 : c - 1 ≤ f' := by omega
            have hkc2 : k + 1 + (c - 1) ≤ 65535 := by omega
            clear hb2 HB HO HLF HSG hst ho2 hsum
            clear hzv
            have hqb := (alphaB_all z hzl).2.1
            have HDG : Hid (bl (chK 2 1 z) = [.int .u8 (alphaB z : Nat)]) := Lib.hid (by
              have e : chK 2 1 z = [UInt8.ofNat (alphaB z)] := rfl
              rw [e, bl_single _ (by omega)])
            have ha1 := fun w' => alphaByte_any z w' hzl
            obtain ⟨aq, haq⟩ : ∃ x, x = alphaB z := ⟨_, rfl⟩
            rw [← haq] at ha1 hqb HDG
            clear haq
            go_wp2_with fail
            refine (ha1 _).mono ?_
            rintro e w2 ⟨rfl, rfl⟩
            clear ha1
            go_wp2_with (with_reducible refine stop_at (o := ⟨some 122, _, _, _, _, _⟩) ?_)
            refine Lib.hid ?_
            refine list_app_rd _ rfl _ _ 22 rfl w.heap.size 5 i0 _ 1 Try.underlying22 hi0 hz0 hz1 hz2 rfl _ k _ rfl (own_up HO2.out (bal (brf w2) _)) _ _ [.int .u8 (aq : Int)] rfl (Rd.one rfl _ _) (fun u hu => by simp at hu; subst hu; rfl) (by simp only [List.length_singleton]; unfold maxLen; omega) (by simp only [List.length_singleton]; omega) (by have := HB2.out.size; simp; omega) ?_
            intro v1 w3 ho1 hg1
            have HO3 : Hid (w3.ownsRow w.heap.size 5 1 v1 (k + 1) (bl (out ++ chK 2 1 z))) := Lib.hid (by
              rw [bl_app, HDG.out]; exact ho1)
            have HB3 : Hid (Below w.heap.size w w3) := Lib.hid (below_grown (bal HB2.out _) hg1 (own_up HO2.out (bal (brf w2) _)) (by have := HB2.out.size; simp; omega))
            clear ho1 hg1 HO2 HB2 HDG
            go_wp2_with fail
            go_roundw
            case rel => exact ⟨f', c - 1, pos + 6, m - 6, cp - 6, o2, k + 1, _, hcf2, hkc2, rfl, by rw [← HC2.out], hm2, hcp2, hmcp2, HLF2, HO3, HSG2, HB3⟩
            case measure => simp [intOf]; omega
        · -- too few bits: the step's equation hst
          rw [if_pos (by omega)] at hst
          have hr : R = none := by rw [← HSG.out]; exact hst
          have HRN := Lib.hid hr
          clear hr hst HSG
          have htk : Calls Try.prog 12 #[.slice (some ⟨b, o, none⟩) m cp, .int .i64 6] wr fun e w' => e = .returned (.tuple #[.int .i64 0, .slice (some ⟨b, o, none⟩) m cp, .bool false]) ∧ w' = wr := qrTake_no (some ⟨b, o, none⟩) m cp 6 wr (by omega) (by decide) hmcp hcp
          go_wp2_with fail
          refine htk.mono ?_
          rintro e wr ⟨rfl, rfl⟩
          go_wp2_with fail
          go_ret3
          exact ⟨HB.out, .inl ⟨HRN.out, rfl⟩⟩
    · -- no sign more
      obtain rfl : c = 0 := by omega
      have hr := HSG.out
      rw [segS_end] at hr
      have hrd := RdT.of_own HO.out
      go_wp2_with fail
      go_ret3
      exact ⟨HB.out, .inr ⟨_, _, _, _, _, _, hr.symm, rfl, hrd, HLF.out⟩⟩
end Go.Proofs.Ytjkfkkenaiodoaa
