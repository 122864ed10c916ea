/-
  WALK: (*GlobalHistogramBinarizer).GetBlackRow, of a row of two grays.
-/
import Derived.Test.YtimfaplnhlnjlaaPn5
namespace Go.Proofs.Ytimfaplnhlnjlaa
open Go.RowKit

theorem getLum_any (p : Nat) (s : Value) (ga n kb : Nat) (w : World) (h : Blk w p 81 (binC s ga n kb)) :
    Calls Try.prog 65 #[.pointer (some ⟨p, 0, none⟩)] w fun e w' => e = .returned s ∧ w' = w := by
  have c0 : w.cell? ⟨p, 0, none⟩ = some s := by rw [h.cell]; rfl
  clear h
  go_enter Try.func65, Try.ntmps65
  go_wp2
  go_ret
  exact ⟨rfl, rfl⟩
theorem RdT.off {w w' : World} {p q : Nat} {e t t' : TypeId} {v : Value} {xs : List Value} {cs cs' : Array Value} (h : RdT w e v xs) (k : Off w w' p q) (hp : Blk w p t cs) (ht : t ≠ e) (hq : Blk w q t' cs') (ht' : t' ≠ e) : RdT w' e v xs := by
  obtain ⟨A, cap, hv, h1, h2, h3⟩ := h
  refine ⟨A, cap, hv, h1, h2, fun hl => ?_⟩
  obtain ⟨b, off, cs1, fr, hA, hh, hc⟩ := h3 hl
  refine ⟨b, off, cs1, fr, hA, (k.same b (heap_lt hh) (fun he => ?_) (fun he => ?_)).trans hh, hc⟩
  · subst he; unfold Blk at hp; rw [hh] at hp; injection hp with hp; injection hp with _ h6; exact ht h6.symm
  · subst he; unfold Blk at hq; rw [hh] at hq; injection hq with hq; injection hq with _ h6; exact ht' h6.symm
theorem nil_ahead (p : Nat) (w : World) : (nilAhead 253 94 (.pointer (some ⟨p, 0, none⟩)) "GetRow").run Try.prog w = .ok (some false) w := by kernel_rfl
theorem u8_mask (y : Nat) (hy : y < 256) : bits .and .u8 (y : Int) 255 = (y : Int) := by
  have h1 : (BitVec.ofInt 8 (y : Int)).toNat = y := by rw [BitVec.ofInt_natCast, BitVec.toNat_ofNat]; exact Nat.mod_eq_of_lt (by omega)
  have h2 : (BitVec.ofInt 8 (255 : Int)).toNat = 255 := by decide
  show IntKind.u8.wrap ((BitVec.ofInt 8 (y : Int) &&& BitVec.ofInt 8 255).toNat : Int) = _
  rw [BitVec.toNat_and, h1, h2, show (255 : Nat) = 2 ^ 8 - 1 from rfl, Nat.and_two_pow_sub_one_eq_mod, IntKind.wrap_u8]
  omega
theorem tdiv_two (s : Int) : 2 * Int.tdiv s 2 ≤ s + 1 ∧ s - 1 ≤ 2 * Int.tdiv s 2 := by
  rcases Int.le_total 0 s with h | h
  · rw [Int.tdiv_eq_ediv_of_nonneg h]; omega
  · obtain ⟨m, rfl⟩ : ∃ m, s = -m := ⟨-s, by omega⟩
    rw [Int.neg_tdiv, Int.tdiv_eq_ediv_of_nonneg (by omega)]; omega
/-- Which gray a pixel has. -/
def Two (L : List Nat) (f : Nat → Bool) (d l : Nat) : Prop := ∀ j, j < L.length → L.getD j 0 = if f j = true then d else l
set_option maxRecDepth 100000 in
set_option maxHeartbeats 4000000 in
theorem blackRow_any (pb ga kb p : Nat) (A : Option Addr) (c n d l : Nat) (L : List Nat) (f : Nat → Bool) (w : World) (hbin : Blk w pb 81 (binC (srcV p) ga 0 kb)) (hkb : Blk w kb 3 (nv (List.replicate 32 0)).toArray) (hkp : kb < pb)
    (hp : Blk w p 98 (srcC (.slice A L.length c) n 1 0 0 n 1)) (hpk : p < kb) (hv : RdT w 5 (.slice A L.length c) (b8 L)) (hL : L.length = n) (hn : 3 ≤ n) (hn2 : n ≤ 400) (hT : Two L f d l) (hdl : d + 24 ≤ l) (hl : l < 256)
    (hd1 : ∃ j, j < n ∧ f j = true) (hl1 : ∃ j, j < n ∧ f j = false) :
    Calls Try.prog 63 #[.pointer (some ⟨pb, 0, none⟩), .int .i64 0, .pointer none] w fun e w' =>
      ∃ q g, e = .returned (.tuple #[.pointer (some ⟨q, 0, none⟩), .nilIface]) ∧ BitsAt w' q g n (fun i => f i && (decide (0 < i) && decide (i + 1 < n))) ∧ Below kb w w' := by
  have HBIN := Lib.hid hbin; have HKB := Lib.hid hkb; have HP := Lib.hid hp; have HV := Lib.hid hv; have HL := Lib.hid hL; have HT := Lib.hid hT; have HD1 := Lib.hid hd1; have HL1 := Lib.hid hl1
  have c0 : w.cell? ⟨p, 0, none⟩ = some (.int .i64 n) := by rw [hp.cell]; rfl
  have hpb := hbin.lt
  have hna := nil_ahead p
  clear hbin hkb hp hv hT hL hd1 hl1
  go_enter Try.func63, Try.ntmps63
  go_wp2_with fail
  refine (getLum_any pb (srcV p) ga 0 kb w HBIN.out).mono ?_
  rintro e w ⟨rfl, rfl⟩
  unfold srcV
  go_wp2_with fail
  refine (srcW_any p _ w c0).mono ?_
  rintro e w ⟨rfl, rfl⟩
  go_wp2_with fail
  refine (newBits_any n w (by omega)).mono ?_
  rintro e w1 ⟨q, gq, rfl, hX, hq1, hq2, hb1⟩
  have hXlt := hX.lt
  have hbin1 := HBIN.out.up hb1
  have hkb1 := HKB.out.up hb1
  have HX1 := Lib.hid hX
  have HBIN1 := Lib.hid hbin1
  have HKB1 := Lib.hid hkb1
  have HB1 := Lib.hid hb1
  have hsz1 := hb1.size
  clear hX hbin1 hkb1 hb1
  go_wp2_with fail
  refine (initArrays_any pb ga 0 kb n (srcV p) (List.replicate 32 0) w1 HBIN1.out HKB1.out (by simp) (by omega) (by omega) (by omega)).mono ?_
  rintro e w2 ⟨rfl, hbin2, hlum2, hkb2, hoff2⟩
  have HX2 := Lib.hid (HX1.out.off hoff2 (by omega) (by omega) (by omega) (by omega))
  have HP2 := Lib.hid ((HP.out.up HB1.out).off hoff2 (by omega) (by omega))
  have HV2 := Lib.hid ((HV.out.up HB1.out).off hoff2 HBIN1.out (by decide) HKB1.out (by decide))
  have HW2 := Lib.hid (hoff2.below kb w (HB1.out.mono (by omega)) (by omega) (Nat.le_refl _) (by omega))
  have HBIN2 := Lib.hid hbin2; have HKB2 := Lib.hid hkb2; have HLUM2 := Lib.hid hlum2
  have hsz2 := hoff2.size
  have hlum := hlum2.lt
  have cG : w2.cell? ⟨pb, 1, none⟩ = some (.slice (some ⟨w1.heap.size, 0, none⟩) n n) := by rw [hbin2.cell]; rfl
  clear hoff2 hbin2 hkb2 hlum2 HX1 HBIN1 HKB1 HBIN HKB HP HV HB1
  go_wp2_with fail
  refine Can.wp_region_can (fun w' => w'.cell? ⟨pb, 1, none⟩ = some (.slice (some ⟨w1.heap.size, 0, none⟩) n n)) 999 [0, 1, 2, 3, 4, 5, 6, 7, 8, 9, 10, 11, 12, 13, 14] (by kernel_rfl) (by kernel_rfl) (fun _ _ d _ _ h => by cases d <;> exact h) cG (fun hHeld => ?_)
  repeat (refine Can.can_pure (v := ?_) rfl rfl (Or.inl ⟨by rfl, ?_⟩) ?_; rotate_left; (focus ((intro w hSw); (try dsimp only at hSw); go_simp; (try with_reducible rfl))); (try simp only [Act.put, List.getElem_toArray, List.getElem_cons_succ, List.getElem_cons_zero, List.setIfInBounds_toArray, List.set_cons_zero, List.set_cons_succ]))
  refine Can.can_eff rfl rfl (by rfl) (fun K hK => ?_)
  go_simp
  refine hK.out _ _ hHeld (fun hHeld1 => ?_)
  clear hK K
  (try simp only [Act.put, List.getElem_toArray, List.getElem_cons_succ, List.getElem_cons_zero, List.setIfInBounds_toArray, List.set_cons_zero, List.set_cons_succ])
  repeat (refine Can.can_pure (v := ?_) rfl rfl (Or.inl ⟨by rfl, ?_⟩) ?_; rotate_left; (focus ((intro w hSw); (try dsimp only at hSw); go_simp; (try with_reducible rfl))); (try simp only [Act.put, List.getElem_toArray, List.getElem_cons_succ, List.getElem_cons_zero, List.setIfInBounds_toArray, List.set_cons_zero, List.set_cons_succ]))
  refine Can.can_eff rfl rfl (by rfl) (fun K hK => ?_)
  go_simp
  refine (getRow_any p A c n 1 0 w1.heap.size L (List.replicate n 0) _ HP2.out.drew (HV2.out.up (bdr (brf w2))) (by rw [HL.out, Nat.mul_one]) (by omega) (by omega) (by rw [HL.out]; omega) HLUM2.out.drew (by simp)).mono ?_
  rintro e w3 ⟨rfl, hg3, hoff3⟩
  refine hK.out _ _ (by have hbx := HBIN2.out.drew.off hoff3 (by omega) (by omega); rw [hbx.cell]; rfl) (fun hHeld2 => ?_)
  clear hK K
  (try simp only [Act.put, List.getElem_toArray, List.getElem_cons_succ, List.getElem_cons_zero, List.setIfInBounds_toArray, List.set_cons_zero, List.set_cons_succ])
  repeat (refine Can.can_pure (v := ?_) rfl rfl (Or.inl ⟨by rfl, ?_⟩) ?_; rotate_left; (focus ((intro w hSw); (try dsimp only at hSw); go_simp; (try with_reducible rfl))); (try simp only [Act.put, List.getElem_toArray, List.getElem_cons_succ, List.getElem_cons_zero, List.setIfInBounds_toArray, List.set_cons_zero, List.set_cons_succ]))
  refine Can.can_done ?_
  have HX3 := Lib.hid ((HX2.out.up (bdr (brf w2))).off hoff3 (by omega) (by omega) (by omega) (by omega))
  have HBIN3 := Lib.hid (HBIN2.out.drew.off hoff3 (by omega) (by omega))
  have HKB3 := Lib.hid (HKB2.out.drew.off hoff3 (by omega) (by omega))
  have HW3 := Lib.hid (hoff3.below kb w HW2.out.drew (by omega) (by omega) (by simp; omega))
  have hsz3 := hoff3.size
  have hLe : (L.drop (0 * n)).take n = L := by rw [Nat.zero_mul, List.drop_zero]; exact List.take_of_length_le (by rw [HL.out]; exact Nat.le_refl _)
  rw [hLe] at hg3
  have HLUM3 := Lib.hid hg3
  have cB := HBIN3.out.cell 2
  have cB2 : w3.cell? ⟨pb, 2, none⟩ = some (.slice (some ⟨kb, 0, none⟩) 32 32) := cB
  have hlum3 := hg3.lt
  have hkb3 := HKB3.out.lt
  clear hHeld hHeld1 hHeld2 cG HX2 HP2 HV2 HW2 HBIN2 HKB2 HLUM2 hoff3 hg3 hLe cB c0 hna
  go_wp2_with fail
  clear cB2 HBIN3
  obtain ⟨D, hD⟩ : ∃ D, D = d / 8 := ⟨_, rfl⟩
  obtain ⟨E, hE⟩ : ∃ E, E = l / 8 := ⟨_, rfl⟩
  have hDE : D + 3 ≤ E ∧ E < 32 := by omega
  have HDE := Lib.hid (And.intro hD hE)
  clear hD hE
  go_loopw [13] (fun iv wr => ∃ k : Nat, k ≤ n ∧ iv = .int .i64 k ∧ Hid (∃ cs, Blk wr kb 3 (nv cs).toArray ∧ Cnt cs D E k (∃ j, j < k ∧ f j = true) (∃ j, j < k ∧ f j = false)) ∧ Hid (Off w3 wr kb kb)) (fun iv _ => n - (intOf iv).toNat)
  case atStart => exact ⟨0, Nat.zero_le _, rfl, Lib.hid ⟨_, HKB3.out, Cnt.start D E (by rintro ⟨j, h, -⟩; omega) (by rintro ⟨j, h, -⟩; omega)⟩, Lib.hid (Off.refl _ _ _)⟩
  case round =>
    clear HKB3
    obtain ⟨k, hk, rfl, HC, HO⟩ := hrel
    by_cases hlt : k < n
    · obtain ⟨cs, hb, hc⟩ := HC.out
      have hlm := HLUM3.out.off HO.out (by omega) (by omega)
      have c1 : wr.cell? ⟨w1.heap.size, k, none⟩ = some (.int .u8 ((L.getD k 0 : Nat) : Int)) := by rw [hlm.cell, List.getElem?_toArray]; exact b8_at _ _ (by rw [HL.out]; exact hlt)
      have hty := HT.out k (by rw [HL.out]; exact hlt)
      obtain ⟨y, hy⟩ : ∃ y, y = L.getD k 0 := ⟨_, rfl⟩
      rw [← hy] at c1 hty
      have hyl : y < 256 := by rw [hty]; split <;> omega
      have eA := u8_mask y hyl
      obtain ⟨i, hi⟩ : ∃ i, i = y / 8 := ⟨_, rfl⟩
      have eB : (y : Int) / 8 = (i : Int) := by omega
      have hi32 : i < 32 := by omega
      have hwhich : (f k = true → i = D) ∧ (f k = false → i = E) := ⟨fun h => by rw [hi, HDE.out.1, hty, if_pos h], fun h => by rw [hi, HDE.out.2, hty, if_neg (by rw [h]; decide)]⟩
      have hcl := hc.len
      have c2 : wr.cell? ⟨kb, i, none⟩ = some (.int .i64 ((cs.getD i 0 : Nat) : Int)) := by rw [hb.cell, List.getElem?_toArray]; exact nv_at _ _ (by omega)
      have f2 := hb.frozen i
      have hle := hc.le i
      have hcs := hc.step i (by cases hf : f k; exact .inr (hwhich.2 hf); exact .inl (hwhich.1 hf)) (by omega) hDE.2 (a' := ∃ j, j < k + 1 ∧ f j = true) (b' := ∃ j, j < k + 1 ∧ f j = false)
        (by
          rintro ⟨j, hj, hfj⟩
          rcases Nat.lt_or_ge j k with h | h
          · exact .inl ⟨j, h, hfj⟩
          · obtain rfl : j = k := by omega
            exact .inr (hwhich.1 hfj))
        (by
          rintro ⟨j, hj, hfj⟩
          rcases Nat.lt_or_ge j k with h | h
          · exact .inl ⟨j, h, hfj⟩
          · obtain rfl : j = k := by omega
            exact .inr (hwhich.2 hfj))
      have eset : (nv cs).toArray.setIfInBounds i (.int .i64 (((cs.getD i 0 : Nat) : Int) + 1)) = (nv (cs.set i (cs.getD i 0 + 1))).toArray := by rw [← nv_set]; rfl
      have hput := hb.put i (.int .i64 (((cs.getD i 0 : Nat) : Int) + 1))
      rw [eset] at hput
      have HC2 : Hid (∃ cs', Blk (wr.setCell ⟨kb, i, none⟩ (.int .i64 (((cs.getD i 0 : Nat) : Int) + 1))) kb 3 (nv cs').toArray ∧ Cnt cs' D E (k + 1) (∃ j, j < k + 1 ∧ f j = true) (∃ j, j < k + 1 ∧ f j = false)) := Lib.hid ⟨_, hput, hcs⟩
      have HO2 := Lib.hid (HO.out.trans (Off.put1 wr kb kb i (.int .i64 (((cs.getD i 0 : Nat) : Int) + 1))))
      clear eset
      generalize cs.getD i 0 = z at *
      clear hlm hty hy hi hwhich hcs hput hb hc HC HO
      go_wp2
      go_roundw
      case rel => exact ⟨k + 1, by omega, by go_num, HC2, HO2⟩
      case measure => simp [intOf]; omega
    · obtain rfl : k = n := by omega
      obtain ⟨cs, hb, hc⟩ := HC.out
      have hc2 : Cnt cs D E k True True := hc.weak (fun _ => HD1.out) (fun _ => HL1.out)
      have hlen := hc.len
      go_wp2_with fail
      refine (estimate_two _ _ cs D E k wr (Rd.of_blk hb (by rw [nv_len, hlen]) (by rw [nv_len, hlen]; exact Nat.le_refl _) (by unfold maxLen; omega)) hc2 (by omega) hDE.1 hDE.2).mono ?_
      rintro e w4 ⟨hb4, b, hbD, hbE, rfl⟩
      have hszr := HO.out.size
      have HX4 := Lib.hid ((HX3.out.off HO.out (by omega) (by omega) (by omega) (by omega)).up hb4)
      have HLUM4 := Lib.hid ((HLUM3.out.off HO.out (by omega) (by omega)).up hb4)
      have HW4 := Lib.hid ((HO.out.below kb w HW3.out (Nat.le_refl _) (Nat.le_refl _) (by omega)).trans (hb4.mono (by omega)))
      have hsz4 := hb4.size
      have hB : d < 8 * b ∧ 8 * b ≤ l := by have h1 := HDE.out.1; have h2 := HDE.out.2; omega
      generalize 8 * b = B at *
      obtain ⟨hB1, hB2⟩ := hB
      have g0 : ∀ j, j < k → L.getD j 0 = if f j = true then d else l := fun j hj => HT.out j (by rw [HL.out]; exact hj)
      have HG := Lib.hid g0
      have cl : ∀ wx : World, Off w4 wx gq gq → ∀ j, j < k → wx.cell? ⟨w1.heap.size, j, none⟩ = some (.int .u8 ((L.getD j 0 : Nat) : Int)) := fun wx ho j hj => by
        rw [(HLUM4.out.off ho (by omega) (by omega)).cell, List.getElem?_toArray]; exact b8_at _ _ (by rw [HL.out]; exact hj)
      have HCL := Lib.hid cl
      have l0 := cl w4 (Off.refl _ _ _) 0 (by omega)
      have l1 := cl w4 (Off.refl _ _ _) 1 (by omega)
      have gl : ∀ j, j < k → L.getD j 0 < 256 := fun j hj => by rw [g0 j hj]; split <;> omega
      have HGL := Lib.hid gl
      have e0 := u8_mask (L.getD 0 0) (gl 0 (by omega))
      have e1 := u8_mask (L.getD 1 0) (gl 1 (by omega))
      have b0 := gl 0 (by omega)
      have b1 := gl 1 (by omega)
      obtain ⟨a0, ha0⟩ : ∃ x, x = L.getD 0 0 := ⟨_, rfl⟩
      obtain ⟨a1, ha1⟩ : ∃ x, x = L.getD 1 0 := ⟨_, rfl⟩
      rw [← ha0] at l0 e0 b0
      rw [← ha1] at l1 e1 b1
      have HA01 : Hid (a0 = L.getD (1 - 1) 0 ∧ a1 = L.getD 1 0) := Lib.hid ⟨ha0, ha1⟩
      have HL0 : Hid (1 ≤ k - 1) := Lib.hid (by omega)
      clear hb hc hc2 hlen hb4 HC HO HX3 HLUM3 HW3 HDE g0 cl gl hbD hbE hlt HT ha0 ha1
      go_wp2_with fail
      obtain ⟨N, hN⟩ : ∃ N, N = k - 1 := ⟨_, rfl⟩
      have eN : (k : Int) - 1 = (N : Int) := by omega
      clear l0 l1 e0 e1
      go_loopw [16, 17, 18] (fun av cv iv wr => ∃ x a c : Nat, 1 ≤ x ∧ x ≤ N ∧ iv = .int .i64 x ∧ av = .int .i64 a ∧ cv = .int .i64 c ∧ Hid (a = L.getD (x - 1) 0 ∧ c = L.getD x 0) ∧ Hid (BitsAt wr q gq k (fun i => f i && (decide (0 < i) && decide (i < x)))) ∧ Hid (Off w4 wr gq gq)) (fun _ _ iv _ => N - (intOf iv).toNat)
      case atStart => exact ⟨1, a0, a1, Nat.le_refl _, by omega, rfl, rfl, rfl, HA01, Lib.hid (HX4.out.congr (fun i hi => by
        have : (decide (0 < i) && decide (i < 1)) = false := by by_cases h : 0 < i <;> simp <;> omega
        rw [this, Bool.and_false])), Lib.hid (Off.refl _ _ _)⟩
      case round =>
        clear HX4 HLUM4
        obtain ⟨x, a, c, hx1, hx2, rfl, rfl, rfl, HAC, HX, HO⟩ := hrel
        by_cases hlt : x < N
        · have cR := HCL.out wr HO.out (x + 1) (by omega)
          have eR := u8_mask (L.getD (x + 1) 0) (HGL.out (x + 1) (by omega))
          have hf0 := HG.out (x - 1) (by omega)
          have hf1 := HG.out x (by omega)
          have hf2 := HG.out (x + 1) (by omega)
          rw [← HAC.out.1] at hf0
          rw [← HAC.out.2] at hf1
          obtain ⟨r, hr⟩ : ∃ r, r = L.getD (x + 1) 0 := ⟨_, rfl⟩
          rw [← hr] at cR eR hf2
          have HR := Lib.hid hr
          have ba : d ≤ a ∧ a ≤ l := by rw [hf0]; split <;> omega
          have br : d ≤ r ∧ r ≤ l := by rw [hf2]; split <;> omega
          have bc : c ≤ 255 := by rw [hf1]; split <;> omega
          obtain ⟨s, hs⟩ : ∃ s : Int, s = (c : Int) * 4 - (a : Int) - (r : Int) := ⟨_, rfl⟩
          obtain ⟨t, ht⟩ : ∃ t : Int, t = Int.tdiv s 2 := ⟨_, rfl⟩
          have ht2 := tdiv_two s
          rw [← ht] at ht2
          have hdark : (f x = true → t < (B : Int)) ∧ (f x = false → ¬ t < (B : Int)) := by
            constructor
            · intro h
              rw [if_pos h] at hf1
              omega
            · intro h
              rw [if_neg (by rw [h]; decide)] at hf1
              omega
          have wT : wrap64 t = t := by unfold wrap64; omega
          clear hf0 hf1 hf2 hr ht2
          rw [hs] at ht
          have eT : Int.tdiv ((c : Int) * 4 - (a : Int) - (r : Int)) 2 = t := ht.symm
          clear ht hs
          have hxk : x < k - 1 := by omega
          have HAC2 : Hid (c = L.getD (x + 1 - 1) 0 ∧ r = L.getD (x + 1) 0) := Lib.hid ⟨HAC.out.2, HR.out⟩
          have hfk : ∀ (g : Nat → Bool), (∀ j, j < k → g j = (f j && (decide (0 < j) && decide (j < x)) || (f j && decide (x = j)))) → ∀ j, j < k → g j = (f j && (decide (0 < j) && decide (j < x + 1))) := fun g hg j hj => by
            rw [hg j hj]
            by_cases h1 : x = j
            · subst h1
              have : decide (0 < x) = true := decide_eq_true (Nat.lt_of_lt_of_le Nat.zero_lt_one hx1)
              simp [this]
            · have : decide (j < x + 1) = decide (j < x) := by simp; omega
              simp [h1, this]
          have HFK := Lib.hid hfk
          clear hfk
          by_cases hfx : f x = true
          · have hlB := hdark.1 hfx
            have HFX := Lib.hid hfx
            clear hdark hfx
            go_wp2_with fail
            refine (bitsSet_any q gq k x _ wr HX.out (by omega) (by omega)).mono ?_
            rintro e w5 ⟨i5, u5, rfl, rfl, hbits⟩
            have HX5 := Lib.hid (hbits.congr (HFK.out _ (fun j hj => by
              by_cases h1 : x = j
              · subst h1; rw [HFX.out]; simp
              · simp [h1])))
            have HO5 := Lib.hid (HO.out.trans (Off.put1 wr gq gq i5 u5))
            clear hbits HX HO
            go_wp2
            go_roundw
            case rel => exact ⟨x + 1, c, r, by omega, by omega, by go_num, rfl, rfl, HAC2, HX5, HO5⟩
            case measure => simp [intOf]; omega
          · have hlB := hdark.2 (by simpa using hfx)
            have HX5 := Lib.hid (HX.out.congr (HFK.out _ (fun j hj => by
              by_cases h1 : x = j
              · subst h1; simp [hfx]
              · simp [h1])))
            clear hdark hfx HX
            go_wp2
            go_roundw
            case rel => exact ⟨x + 1, c, r, by omega, by omega, by go_num, rfl, rfl, HAC2, HX5, HO⟩
            case measure => simp [intOf]; omega
        · obtain rfl : x = N := by omega
          have HX5 := Lib.hid (HX.out.congr (f' := fun i => f i && (decide (0 < i) && decide (i + 1 < k))) (fun i hi => by
            have : decide (i < x) = decide (i + 1 < k) := by simp; omega
            rw [this]))
          have HW5 := Lib.hid (HO.out.below kb w HW4.out (by omega) (by omega) (by omega))
          have hxk : ¬ x < k - 1 := by omega
          clear HX HO
          go_wp2
          go_returns
          exact ⟨q, gq, rfl, HX5.out, HW5.out⟩
end Go.Proofs.Ytimfaplnhlnjlaa
