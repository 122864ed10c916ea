/-
  WALKS: spec.QRVersionBits, spec.qrPattern.
-/
import Derived.Test.YtcldipbboidjbaaQp3
import Derived.Test.YtcldipbboidjbaaQf1
import Derived.Laws.Cover1
namespace Go.Proofs.Ytcldipbboidjbaa
open Go.RowKit

/-- The bits that say a version. -/
def verBits (v : Nat) : Nat := v * 4096 ||| restN (v * 4096) 7973 13
theorem restN_lt (x p b : Nat) (hx : x < 262144) (hp : p < 2 ^ b) (hb : 5 ≤ b) (hb2 : b ≤ 18) : restN x p b < 262144 := by
  have : ∀ k, k ≤ 19 - b → restK p b x k < 262144 := fun k => by
    induction k with
    | zero => intro _; exact hx
    | succ k ih => intro hk; exact restStep_lt p b _ _ (ih (by omega)) hp (by omega) (by omega)
  exact this _ (Nat.le_refl _)
theorem verBits_lt (v : Nat) (h : v ≤ 40) : verBits v < 262144 := Nat.or_lt_two_pow (n := 18) (by omega) (restN_lt _ _ _ (by omega) (by decide) (by decide) (by decide))
theorem versionBits_any (v : Nat) (w : World) (h : v ≤ 40) : Calls Try.prog 78 #[.int .i64 v] w fun e w' => e = .returned (.int .i64 (verBits v : Nat)) ∧ w' = w := by
  have hr := qrRest_any (v * 4096) 7973 13 w (by omega) (by decide) (by decide) (by decide)
  have hor := i64_or (v * 4096) (restN (v * 4096) 7973 13) (by omega) (by have := restN_lt (v * 4096) 7973 13 (by omega) (by decide) (by decide) (by decide); omega)
  have hV : verBits v = (v * 4096 ||| restN (v * 4096) 7973 13) := rfl
  rw [← hV] at hor
  have hm : ((v * 4096 : Nat) : Int) = (v : Int) * 4096 := by omega
  rw [hm] at hr hor
  clear hV
  generalize verBits v = V at *
  go_enter Try.func78, Try.ntmps78
  go_wp2_with fail
  refine hr.mono ?_
  rintro e w ⟨rfl, rfl⟩
  go_wp2
  go_ret
  exact ⟨rfl, rfl⟩
/-- How far a module is from the nearest finder's middle. -/
def farM (n r c : Int) : Int := min (min (farI r c 3 3) (farI r c 3 (n - 4))) (farI r c (n - 4) 3)
theorem farM_if (n r c : Int) : farM n r c = (if farI r c (n - 4) 3 < (if farI r c 3 (n - 4) < farI r c 3 3 then farI r c 3 (n - 4) else farI r c 3 3) then farI r c (n - 4) 3 else (if farI r c 3 (n - 4) < farI r c 3 3 then farI r c 3 (n - 4) else farI r c 3 3)) := by
  unfold farM; split <;> split <;> omega
/-- Bit k of a number is set. -/
def bitN (x : Nat) (k : Int) : Bool := x / 2 ^ k.toNat % 2 == 1
/-- What stands at a module of a pattern. -/
def pattnB (v n fm : Nat) (cs : List Nat) (r c : Nat) : Bool :=
  if 0 ≤ fmtI n r c then bitN fm (fmtI n r c) else if r + 8 = n ∧ c = 8 then true else
  if farM n r c ≤ 4 then (farM n r c != 2 && farM n r c != 4) else if 0 ≤ alignI cs r c then alignI cs r c != 1 else
  if r = 6 ∨ c = 6 then (r + c) % 2 == 0 else if r < c then bitN (verBits v) ((r : Int) * 3 + c - n + 11) else bitN (verBits v) ((c : Int) * 3 + r - n + 11)
theorem ver_pos (v n r c : Nat) (cs : List Nat) (hg : givenP v n cs r c) (h21 : 21 ≤ n) (h1 : r < n) (h2 : c < n) (hf : ¬ 0 ≤ fmtI n r c) (hd : ¬ (r + 8 = n ∧ c = 8)) (hm : ¬ farM n r c ≤ 4) (ha : ¬ 0 ≤ alignI cs r c) (he : ¬ (r = 6 ∨ c = 6)) :
    (r < c → 0 ≤ (r : Int) * 3 + c - n + 11 ∧ (r : Int) * 3 + c - n + 11 ≤ 60) ∧ (¬ r < c → 0 ≤ (c : Int) * 3 + r - n + 11 ∧ (c : Int) * 3 + r - n + 11 ≤ 60) := by
  have hA : farM n r c ≤ farI r c 3 3 := by unfold farM; omega
  have hk : r ≤ 8 → c ≤ 8 → False := by
    intro a b
    have h8 : farI r c 3 3 ≤ 4 ∨ r = 8 ∨ c = 8 := by unfold farI; omega
    apply hf
    unfold fmtI
    split <;> (try split) <;> (try split) <;> (try split) <;> (try split) <;> (try split) <;> (try split) <;> omega
  by_cases hh : r ≤ 8 ∧ c ≤ 8
  · exact (hk hh.1 hh.2).elim
  unfold givenP at hg
  clear hk hf hm hA
  constructor <;> intro hl <;> constructor <;> omega
theorem bitN_at (x k : Nat) (hx : x < 9223372036854775808) : (bits .and .i64 ((x : Int) / (2 : Int) ^ k) 1 == 1) = bitN x (k : Int) := by
  have e : (x : Int) / (2 : Int) ^ k = ((x / 2 ^ k : Nat) : Int) := by simp
  have h1 : x / 2 ^ k ≤ x := Nat.div_le_self _ _
  rw [e, and_one _ (by omega)]
  unfold bitN
  rw [Bool.eq_iff_iff, Int.toNat_natCast]; simp; omega
set_option maxRecDepth 100000 in
set_option maxHeartbeats 4000000 in
theorem pattern_any (s : Value) (cs : List Nat) (v n fm r c B : Nat) (w : World) (hv : Rd w B s (nvl cs)) (hn : cs.length ≤ 7) (hc : ∀ x ∈ cs, x ≤ 180) (hvn : n = 17 + 4 * v) (hv1 : 1 ≤ v) (hv40 : v ≤ 40) (h1 : r < n) (h2 : c < n) (hfm : fm < 32768) (hg : givenP v n cs r c) :
    Calls Try.prog 40 #[.int .i64 v, .int .i64 fm, s, .int .i64 r, .int .i64 c] w fun e w' => e = .returned (.bool (pattnB v n fm cs r c)) ∧ w' = w := by
  have hDim := specDim_any v w hv40
  rw [← hvn] at hDim
  have hAl := align_any s cs r c B w hv hn hc (by omega) (by omega)
  have hVb := versionBits_any v w hv40
  have hVlt := verBits_lt v hv40
  have hn21 : 21 ≤ n := by omega
  have hn177 : n ≤ 177 := by omega
  have hFm := formatAt_any (n : Int) (r : Int) (c : Int) w (by omega) (by omega) (by omega)
  have hF1 := far_any (r : Int) (c : Int) 3 3 w (by omega) (by omega) (by omega) (by omega)
  have hF2 := far_any (r : Int) (c : Int) 3 ((n : Int) - 4) w (by omega) (by omega) (by omega) (by omega)
  have hF3 := far_any (r : Int) (c : Int) ((n : Int) - 4) 3 w (by omega) (by omega) (by omega) (by omega)
  have HVP : Hid (¬ 0 ≤ fmtI n r c → ¬ (r + 8 = n ∧ c = 8) → ¬ farM n r c ≤ 4 → ¬ 0 ≤ alignI cs r c → ¬ (r = 6 ∨ c = 6) → (r < c → 0 ≤ (r : Int) * 3 + c - n + 11 ∧ (r : Int) * 3 + c - n + 11 ≤ 60) ∧ (¬ r < c → 0 ≤ (c : Int) * 3 + r - n + 11 ∧ (c : Int) * 3 + r - n + 11 ≤ 60)) := Lib.hid (ver_pos v n r c cs hg hn21 h1 h2)
  clear hvn hc hv
  go_enter Try.func40, Try.ntmps40
  go_wp2_with fail
  refine hDim.mono ?_
  rintro e w ⟨rfl, rfl⟩
  go_wp2_with fail
  refine hFm.mono ?_
  rintro e w ⟨rfl, rfl⟩
  have hfb : -1 ≤ fmtI n r c ∧ fmtI n r c ≤ 14 := by unfold fmtI; split <;> (try split) <;> (try split) <;> (try split) <;> (try split) <;> (try split) <;> (try split) <;> omega
  by_cases hf0 : 0 ≤ fmtI n r c
  · obtain ⟨k, hk⟩ := Int.eq_ofNat_of_zero_le hf0
    have HP1 : Hid (pattnB v n fm cs r c = bitN fm (k : Int)) := Lib.hid (by unfold pattnB; rw [if_pos hf0, hk])
    have hb := bitN_at fm k (by omega)
    rw [hk]
    have hk14 : k ≤ 14 := by omega
    clear hk hf0 hfb hDim hFm hF1 hF2 hF3 hAl hVb
    go_wp2_with fail
    go_ret
    exact ⟨ret_bool HP1.out.symm, rfl⟩
  · have HP1 : Hid (pattnB v n fm cs r c = if r + 8 = n ∧ c = 8 then true else if farM n r c ≤ 4 then (farM n r c != 2 && farM n r c != 4) else if 0 ≤ alignI cs r c then alignI cs r c != 1 else
      if r = 6 ∨ c = 6 then (r + c) % 2 == 0 else if r < c then bitN (verBits v) ((r : Int) * 3 + c - n + 11) else bitN (verBits v) ((c : Int) * 3 + r - n + 11)) := Lib.hid (by unfold pattnB; rw [if_neg hf0])
    obtain ⟨Fm, hFm0⟩ : ∃ x, x = fmtI n r c := ⟨_, rfl⟩
    have HVP2 := Lib.hid (HVP.out (by omega))
    rw [← hFm0] at hf0 hfb ⊢
    clear hFm hFm0 HVP
    by_cases r8 : r + 8 = n
    · by_cases c8 : c = 8
      · have HP2 := Lib.hid (HP1.out.trans (if_pos ⟨r8, c8⟩))
        have t1 : ((r : Int) == (n : Int) - 8) = true := by simp; omega
        have t2 : ((c : Int) == 8) = true := by simp; omega
        clear hDim hF1 hF2 hF3 hAl hVb HP1
        go_wp2_with fail
        go_ret
        exact ⟨ret_bool HP2.out.symm, rfl⟩
      · have HP2 := Lib.hid (HP1.out.trans (if_neg (fun h => c8 h.2)))
        have t1 : ((r : Int) == (n : Int) - 8) = true := by simp; omega
        have t2 : ((c : Int) == 8) = false := by simp; omega
        have HVP3 := Lib.hid (HVP2.out (fun h => c8 h.2))
        clear HP1 HVP2
        go_wp2_with fail
        refine hF1.mono ?_
        rintro e w ⟨rfl, rfl⟩
        go_wp2_with fail
        refine hF2.mono ?_
        rintro e w ⟨rfl, rfl⟩
        go_wp2_with fail
        refine hF3.mono ?_
        rintro e w ⟨rfl, rfl⟩
        have hM := (farM_if (n : Int) (r : Int) (c : Int)).symm
        generalize farI (r : Int) (c : Int) 3 3 = X1 at *
        generalize farI (r : Int) (c : Int) 3 ((n : Int) - 4) = X2 at *
        generalize farI (r : Int) (c : Int) ((n : Int) - 4) 3 = X3 at *
        generalize farM (n : Int) (r : Int) (c : Int) = M at *
        clear hF1 hF2 hF3 hDim
        by_cases m4 : M ≤ 4
        · have HP3 := Lib.hid (HP2.out.trans (if_pos m4))
          clear hAl hVb HP2
          by_cases m2 : M = 2
          · have HP4 : Hid (pattnB v n fm cs r c = false) := Lib.hid (by rw [HP3.out, m2]; rfl)
            clear HP3
            go_wp2_with fail
            go_ret
            exact ⟨ret_bool HP4.out.symm, rfl⟩
          · go_wp2_with fail
            go_ret
            exact ⟨ret_bool HP3.out.symm, rfl⟩
        · have HP3 := Lib.hid (HP2.out.trans (if_neg m4))
          clear HP2
          go_wp2_with fail
          refine hAl.mono ?_
          rintro e w ⟨rfl, rfl⟩
          generalize alignI cs r c = A at *
          by_cases a0 : 0 ≤ A
          · have HP4 := Lib.hid (HP3.out.trans (if_pos a0))
            clear hVb HP3
            go_wp2_with fail
            go_ret
            exact ⟨ret_bool (by rw [HP4.out]), rfl⟩
          · have HP4 := Lib.hid (HP3.out.trans (if_neg a0))
            clear HP3
            have HVP4 := Lib.hid (HVP3.out (by omega) (by omega))
            clear HVP3
            have par : (((r : Int) + (c : Int)).tmod 2 == 0) = ((r + c) % 2 == 0) := by
              rw [Int.tmod_eq_emod_of_nonneg (by omega), Bool.eq_iff_iff]; simp; omega
            by_cases e6 : r = 6
            · have HP5 := Lib.hid (HP4.out.trans (if_pos (Or.inl e6)))
              have r6i : ((r : Int) == 6) = true := by simp; omega
              clear hVb HP4 HVP4
              go_wp2_with fail
              all_goals go_ret
              all_goals exact ⟨ret_bool (by rw [HP5.out, Bool.eq_iff_iff]; simp; omega), rfl⟩
            have r6i : ((r : Int) == 6) = false := by simp; omega
            by_cases f6 : c = 6
            · have HP5 := Lib.hid (HP4.out.trans (if_pos (Or.inr f6)))
              have c6i : ((c : Int) == 6) = true := by simp; omega
              clear hVb HP4 HVP4
              go_wp2_with fail
              all_goals go_ret
              all_goals exact ⟨ret_bool (by rw [HP5.out, Bool.eq_iff_iff]; simp; omega), rfl⟩
            have c6i : ((c : Int) == 6) = false := by simp; omega
            have HP5 := Lib.hid (HP4.out.trans (if_neg (by omega)))
            have HVP5 := HVP4.out (by omega)
            clear HP4 HVP4 par
            by_cases hrc : r < c
            · have HP6 := Lib.hid (HP5.out.trans (if_pos hrc))
              have hp := HVP5.1 hrc
              clear HVP5 HP5
              obtain ⟨k, hk⟩ := Int.eq_ofNat_of_zero_le hp.1
              rw [hk] at HP6
              have hb := bitN_at (verBits v) k (by omega)
              generalize verBits v = V at *
              go_wp2_with fail
              refine hVb.mono ?_
              rintro e w ⟨rfl, rfl⟩
              clear hAl hM t1
              go_wp2_with fail
              go_ret
              exact ⟨ret_bool HP6.out.symm, rfl⟩
            · have HP6 := Lib.hid (HP5.out.trans (if_neg hrc))
              have hp := HVP5.2 hrc
              clear HVP5 HP5
              obtain ⟨k, hk⟩ := Int.eq_ofNat_of_zero_le hp.1
              rw [hk] at HP6
              have hb := bitN_at (verBits v) k (by omega)
              generalize verBits v = V at *
              go_wp2_with fail
              refine hVb.mono ?_
              rintro e w ⟨rfl, rfl⟩
              clear hAl hM t1
              go_wp2_with fail
              go_ret
              exact ⟨ret_bool HP6.out.symm, rfl⟩
    · have HP2 := Lib.hid (HP1.out.trans (if_neg (fun h => r8 h.1)))
      have t1 : ((r : Int) == (n : Int) - 8) = false := by simp; omega
      have HVP3 := Lib.hid (HVP2.out (fun h => r8 h.1))
      clear HP1 HVP2
      go_wp2_with fail
      refine hF1.mono ?_
      rintro e w ⟨rfl, rfl⟩
      go_wp2_with fail
      refine hF2.mono ?_
      rintro e w ⟨rfl, rfl⟩
      go_wp2_with fail
      refine hF3.mono ?_
      rintro e w ⟨rfl, rfl⟩
      have hM := (farM_if (n : Int) (r : Int) (c : Int)).symm
      generalize farI (r : Int) (c : Int) 3 3 = X1 at *
      generalize farI (r : Int) (c : Int) 3 ((n : Int) - 4) = X2 at *
      generalize farI (r : Int) (c : Int) ((n : Int) - 4) 3 = X3 at *
      generalize farM (n : Int) (r : Int) (c : Int) = M at *
      clear hF1 hF2 hF3 hDim
      by_cases m4 : M ≤ 4
      · have HP3 := Lib.hid (HP2.out.trans (if_pos m4))
        clear hAl hVb HP2
        by_cases m2 : M = 2
        · have HP4 : Hid (pattnB v n fm cs r c = false) := Lib.hid (by rw [HP3.out, m2]; rfl)
          clear HP3
          go_wp2_with fail
          go_ret
          exact ⟨ret_bool HP4.out.symm, rfl⟩
        · go_wp2_with fail
          go_ret
          exact ⟨ret_bool HP3.out.symm, rfl⟩
      · have HP3 := Lib.hid (HP2.out.trans (if_neg m4))
        clear HP2
        go_wp2_with fail
        refine hAl.mono ?_
        rintro e w ⟨rfl, rfl⟩
        generalize alignI cs r c = A at *
        by_cases a0 : 0 ≤ A
        · have HP4 := Lib.hid (HP3.out.trans (if_pos a0))
          clear hVb HP3
          go_wp2_with fail
          go_ret
          exact ⟨ret_bool (by rw [HP4.out]), rfl⟩
        · have HP4 := Lib.hid (HP3.out.trans (if_neg a0))
          clear HP3
          have HVP4 := Lib.hid (HVP3.out (by omega) (by omega))
          clear HVP3
          have par : (((r : Int) + (c : Int)).tmod 2 == 0) = ((r + c) % 2 == 0) := by
            rw [Int.tmod_eq_emod_of_nonneg (by omega), Bool.eq_iff_iff]; simp; omega
          by_cases e6 : r = 6
          · have HP5 := Lib.hid (HP4.out.trans (if_pos (Or.inl e6)))
            have r6i : ((r : Int) == 6) = true := by simp; omega
            clear hVb HP4 HVP4
            go_wp2_with fail
            all_goals go_ret
            all_goals exact ⟨ret_bool (by rw [HP5.out, Bool.eq_iff_iff]; simp; omega), rfl⟩
          have r6i : ((r : Int) == 6) = false := by simp; omega
          by_cases f6 : c = 6
          · have HP5 := Lib.hid (HP4.out.trans (if_pos (Or.inr f6)))
            have c6i : ((c : Int) == 6) = true := by simp; omega
            clear hVb HP4 HVP4
            go_wp2_with fail
            all_goals go_ret
            all_goals exact ⟨ret_bool (by rw [HP5.out, Bool.eq_iff_iff]; simp; omega), rfl⟩
          have c6i : ((c : Int) == 6) = false := by simp; omega
          have HP5 := Lib.hid (HP4.out.trans (if_neg (by omega)))
          have HVP5 := HVP4.out (by omega)
          clear HP4 HVP4 par
          by_cases hrc : r < c
          · have HP6 := Lib.hid (HP5.out.trans (if_pos hrc))
            have hp := HVP5.1 hrc
            clear HVP5 HP5
            obtain ⟨k, hk⟩ := Int.eq_ofNat_of_zero_le hp.1
            rw [hk] at HP6
            have hb := bitN_at (verBits v) k (by omega)
            generalize verBits v = V at *
            go_wp2_with fail
            refine hVb.mono ?_
            rintro e w ⟨rfl, rfl⟩
            clear hAl hM t1
            go_wp2_with fail
            go_ret
            exact ⟨ret_bool HP6.out.symm, rfl⟩
          · have HP6 := Lib.hid (HP5.out.trans (if_neg hrc))
            have hp := HVP5.2 hrc
            clear HVP5 HP5
            obtain ⟨k, hk⟩ := Int.eq_ofNat_of_zero_le hp.1
            rw [hk] at HP6
            have hb := bitN_at (verBits v) k (by omega)
            generalize verBits v = V at *
            go_wp2_with fail
            refine hVb.mono ?_
            rintro e w ⟨rfl, rfl⟩
            clear hAl hM t1
            go_wp2_with fail
            go_ret
            exact ⟨ret_bool HP6.out.symm, rfl⟩
end Go.Proofs.Ytcldipbboidjbaa
