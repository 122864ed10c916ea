/-
  WALK: (*GlobalHistogramBinarizer).GetBlackMatrix, of a picture of two grays.
-/
import Derived.Test.YtimfaplnhlnjlaaPn8
import Derived.Test.YtimfaplnhlnjlaaBm2
namespace Go.Proofs.Ytimfaplnhlnjlaa
open Go.RowKit

theorem MatAt.congr {w : World} {p g W H : Nat} {f f' : Nat → Nat → Bool} (h : MatAt w p g W H f) (hf : ∀ x y, x < W → y < H → f x y = f' x y) : MatAt w p g W H f' := by
  obtain ⟨ws, h1, h2⟩ := h; exact ⟨ws, h1, fun x y hx hy => (h2 x y hx hy).trans (hf x y hx hy)⟩
theorem MatAt.off {w w' : World} {p g W H a b : Nat} {f : Nat → Nat → Bool} (h : MatAt w p g W H f) (k : Off w w' a b) (h1 : p ≠ a) (h2 : p ≠ b) (h3 : g ≠ a) (h4 : g ≠ b) : MatAt w' p g W H f := by
  obtain ⟨ws, h5, h6⟩ := h
  exact ⟨ws, ⟨h5.head.off k h1 h2, h5.rows.off k h3 h4, h5.lt, h5.len, h5.apart⟩, h6⟩
theorem MatAt.ltb {w : World} {p g W H : Nat} {f : Nat → Nat → Bool} (h : MatAt w p g W H f) : p < w.heap.size ∧ g < w.heap.size := by
  obtain ⟨ws, h5, -⟩ := h
  exact ⟨h5.head.lt, h5.rows.lt⟩
theorem mat_step1 (F : Bool) (a b x y : Nat) (h : a = x → b = y → F = true) : ((F && (decide (b < y) || (decide (b = y) && decide (a < x)))) || (decide (a = x) && decide (b = y))) = (F && (decide (b < y) || (decide (b = y) && decide (a < x + 1)))) := by
  by_cases h1 : a = x
  · subst h1
    by_cases h2 : b = y
    · subst h2; simp [h rfl rfl]
    · simp [h2]
  · have : decide (a < x + 1) = decide (a < x) := by simp; omega
    simp [h1, this]
theorem mat_step0 (F : Bool) (a b x y : Nat) (h : a = x → b = y → F = false) : (F && (decide (b < y) || (decide (b = y) && decide (a < x)))) = (F && (decide (b < y) || (decide (b = y) && decide (a < x + 1)))) := by
  by_cases h1 : a = x
  · subst h1
    by_cases h2 : b = y
    · subst h2; simp [h rfl rfl]
    · simp [h2]
  · have : decide (a < x + 1) = decide (a < x) := by simp; omega
    simp [this]
theorem mat_row (F : Bool) (a b y W : Nat) (h : a < W) : (F && (decide (b < y) || (decide (b = y) && decide (a < W)))) = (F && decide (b < y + 1)) := by
  have h1 : decide (a < W) = true := decide_eq_true h
  have h2 : (decide (b < y) || decide (b = y)) = decide (b < y + 1) := by
    by_cases h3 : b < y
    · simp [h3]; omega
    · by_cases h4 : b = y
      · simp [h4]
      · simp [h3, h4]; omega
  rw [h1, Bool.and_true, h2]
theorem mat_none (F : Bool) (a b y : Nat) : (F && (decide (b < y) || (decide (b = y) && decide (a < 0)))) = (F && decide (b < y)) := by simp
theorem Off.wide1 {w w' : World} {p q : Nat} (h : Off w w' p p) : Off w w' p q := ⟨fun b hb h1 _ => h.same b hb h1 h1, h.size, fun B w0 hB h1 _ h3 => h.below B w0 hB h1 h1 h3⟩
theorem Off.wide2 {w w' : World} {p q : Nat} (h : Off w w' q q) : Off w w' p q := ⟨fun b hb _ h2 => h.same b hb h2 h2, h.size, fun B w0 hB _ h2 h3 => h.below B w0 hB h2 h2 h3⟩
theorem Off.drew (w : World) (p q : Nat) : Off w w.drew p q := ⟨fun _ _ _ _ => rfl, Nat.le_refl _, fun _ _ h _ _ _ => h.drew⟩
theorem row_two {L : List Nat} {f : Nat → Bool} {d l W H r : Nat} (hT : Two L f d l) (hL : L.length = W * H) (hr : r < H) : ((L.drop (r * W)).take W).length = W ∧ ∀ i, i < W → ((L.drop (r * W)).take W).getD i 0 = if f (r * W + i) = true then d else l := by
  have h1 : r * W + W ≤ L.length := by rw [hL, Nat.mul_comm W H]; have := Nat.mul_le_mul_right W (show r + 1 ≤ H by omega); rw [Nat.add_mul, Nat.one_mul] at this; exact this
  refine ⟨by rw [List.length_take, List.length_drop]; omega, fun i hi => ?_⟩
  rw [List.getD, List.getElem?_take_of_lt hi, List.getElem?_drop, ← List.getD]
  exact hT (r * W + i) (by omega)
theorem RdB.off {w w' : World} {p q B : Nat} {e : TypeId} {v : Value} {xs : List Value} (h : RdB w e B v xs) (k : Off w w' p q) (hp : B ≤ p ∨ ∃ t cs, Blk w p t cs ∧ t ≠ e) (hq : B ≤ q ∨ ∃ t cs, Blk w q t cs ∧ t ≠ e) : RdB w' e B v xs := by
  obtain ⟨A, cap, hv, h1, h2, h3⟩ := h
  refine ⟨A, cap, hv, h1, h2, fun hl => ?_⟩
  obtain ⟨b, off, cs1, fr, hA, hb, hh, hc⟩ := h3 hl
  refine ⟨b, off, cs1, fr, hA, hb, (k.same b (heap_lt hh) (fun he => ?_) (fun he => ?_)).trans hh, hc⟩
  · subst he
    rcases hp with hp | ⟨t, cs, hp, ht⟩
    · omega
    · unfold Blk at hp; rw [hh] at hp; injection hp with hp; injection hp with _ h6; exact ht h6.symm
  · subst he
    rcases hq with hp | ⟨t, cs, hp, ht⟩
    · omega
    · unfold Blk at hp; rw [hh] at hp; injection hp with hp; injection hp with _ h6; exact ht h6.symm
set_option maxRecDepth 100000 in
set_option maxHeartbeats 4000000 in
theorem blackMat_any (pb ga kb p : Nat) (A : Option Addr) (c W H d l : Nat) (L : List Nat) (f : Nat → Bool) (w : World) (hbin : Blk w pb 81 (binC (srcV p) ga 0 kb)) (hkb : Blk w kb 3 (nv (List.replicate 32 0)).toArray) (hkp : kb < pb)
    (hp : Blk w p 98 (srcC (.slice A L.length c) W H 0 0 W H)) (hpk : p < kb) (hv : RdT w 5 (.slice A L.length c) (b8 L)) (hL : L.length = W * H) (hW : 1 ≤ W) (hH : 1 ≤ H) (hW2 : W ≤ 100) (hH2 : H ≤ 100) (hT : Two L f d l) (hdl : d + 24 ≤ l) (hl : l < 256)
    (hd1 : ∃ i, W / 5 ≤ i ∧ i < W * 4 / 5 ∧ f (H * 1 / 5 * W + i) = true) (hl1 : ∃ i, W / 5 ≤ i ∧ i < W * 4 / 5 ∧ f (H * 1 / 5 * W + i) = false) :
    Calls Try.prog 62 #[.pointer (some ⟨pb, 0, none⟩)] w fun e w' =>
      ∃ q g, e = .returned (.tuple #[.pointer (some ⟨q, 0, none⟩), .nilIface]) ∧ MatAt w' q g W H (fun x y => f (y * W + x)) ∧ Below kb w w' := by
  have HBIN := Lib.hid hbin; have HKB := Lib.hid hkb; have HP := Lib.hid hp; have HV := Lib.hid hv; have HL := Lib.hid hL; have HT := Lib.hid hT; have HD1 := Lib.hid hd1; have HL1 := Lib.hid hl1
  have c0 : w.cell? ⟨p, 0, none⟩ = some (.int .i64 W) := by rw [hp.cell]; rfl
  have c1 : w.cell? ⟨p, 1, none⟩ = some (.int .i64 H) := by rw [hp.cell]; rfl
  have hpb := hbin.lt
  have hLs : W * H ≤ 10000 := Nat.mul_le_mul hW2 hH2
  have HLS : Hid (L.length ≤ 1000000) := Lib.hid (hL ▸ Nat.le_trans hLs (by decide))
  have hna := nil_ahead p
  clear hbin hkb hp hv hT hL hd1 hl1 hLs
  go_enter Try.func62, Try.ntmps62
  go_wp2_with fail
  refine (getLum_any pb (srcV p) ga 0 kb w HBIN.out).mono ?_
  rintro e w ⟨rfl, rfl⟩
  unfold srcV
  go_wp2_with fail
  refine (srcW_any p _ w c0).mono ?_
  rintro e w ⟨rfl, rfl⟩
  go_wp2_with fail
  refine (srcH_any p _ w c1).mono ?_
  rintro e w ⟨rfl, rfl⟩
  go_wp2_with fail
  refine (newMat_any W H w hW hH (by omega) (by omega)).mono ?_
  rintro e w1 ⟨q, gq, rfl, hX, hq1, hq2, hb1⟩
  have hXlt := hX.ltb
  have HX1 := Lib.hid hX
  have HBIN1 := Lib.hid (HBIN.out.up hb1)
  have HKB1 := Lib.hid (HKB.out.up hb1)
  have HB1 := Lib.hid hb1
  have hsz1 := hb1.size
  clear hX hb1
  go_wp2_with fail
  refine (initArrays_any pb ga 0 kb W (srcV p) (List.replicate 32 0) w1 HBIN1.out HKB1.out (by simp) (by omega) (by omega) (by omega)).mono ?_
  rintro e w2 ⟨rfl, hbin2, hlum2, hkb2, hoff2⟩
  have HX2 := Lib.hid (HX1.out.off hoff2 (by omega) (by omega) (by omega) (by omega))
  have HP2 := Lib.hid ((HP.out.up HB1.out).off hoff2 (by omega) (by omega))
  have HV2 := Lib.hid ((HV.out.rdB.below HB1.out).off hoff2 (.inr ⟨_, _, HBIN1.out, by decide⟩) (.inr ⟨_, _, HKB1.out, by decide⟩))
  have HW2 := Lib.hid (hoff2.below kb w (HB1.out.mono (by omega)) (by omega) (Nat.le_refl _) (by omega))
  have HBIN2 := Lib.hid hbin2; have HKB2 := Lib.hid hkb2; have HLUM2 := Lib.hid hlum2
  have hsz2 := hoff2.size
  have hlum := hlum2.lt
  have hkbl := hkb2.lt
  have cB : w2.cell? ⟨pb, 2, none⟩ = some (.slice (some ⟨kb, 0, none⟩) 32 32) := by rw [hbin2.cell]; rfl
  clear hoff2 hbin2 hlum2 HX1 HBIN1 HKB1 HBIN HKB HP HV HB1 c0 c1
  go_wp2_with fail
  clear cB
  obtain ⟨D, hD⟩ : ∃ D, D = d / 8 := ⟨_, rfl⟩
  obtain ⟨E, hE⟩ : ∃ E, E = l / 8 := ⟨_, rfl⟩
  have hDE : D + 3 ≤ E ∧ E < 32 := by omega
  have HDE := Lib.hid (And.intro hD hE)
  obtain ⟨P, hP⟩ : ∃ P, P = W / 5 := ⟨_, rfl⟩
  obtain ⟨Q, hQ⟩ : ∃ Q, Q = W * 4 / 5 := ⟨_, rfl⟩
  have eP : (W : Int) / 5 = (P : Int) := by omega
  have eQ : (W : Int) * 4 / 5 = (Q : Int) := by omega
  have bQ : P ≤ Q ∧ Q ≤ W := by omega
  have HPQ := Lib.hid (And.intro hP hQ)
  have hpw := HP2.out.lt
  clear hD hE hP hQ hkb2
  go_loopw [10] (fun iv wr => ∃ k : Nat, 1 ≤ k ∧ k ≤ 5 ∧ iv = .int .i64 k ∧ Hid (∃ cs m, Blk wr kb 3 (nv cs).toArray ∧ Cnt cs D E m (1 < k) (1 < k) ∧ m ≤ 100 * k) ∧ Hid (∃ cur, Blk wr w1.heap.size 5 (b8 cur).toArray ∧ cur.length = W) ∧ Hid (Off w2 wr kb w1.heap.size)) (fun iv _ => 5 - (intOf iv).toNat)
  case atStart => exact ⟨1, by omega, by omega, rfl, Lib.hid ⟨_, 0, HKB2.out, Cnt.start D E (by omega) (by omega), by omega⟩, Lib.hid ⟨_, HLUM2.out, by simp⟩, Lib.hid (Off.refl _ _ _)⟩
  case round =>
    clear HLUM2
    obtain ⟨k, hk1, hk5, rfl, HC, HM, HO⟩ := hrel
    by_cases hlt : k < 5
    · obtain ⟨M, hM⟩ : ∃ M, M = H * k := ⟨_, rfl⟩
      have hM2 : M ≤ H * 4 := by rw [hM]; exact Nat.mul_le_mul_left _ (by omega)
      obtain ⟨r, hr⟩ : ∃ r, r = M / 5 := ⟨_, rfl⟩
      have er : (M : Int) / 5 = (r : Int) := by omega
      have hrH : r < H := by omega
      have HR1 : Hid (k = 1 → r = H * 1 / 5) := Lib.hid (fun h => by rw [hr, hM, h])
      obtain ⟨cur, hcur, hcl⟩ := HM.out
      have hbin := HBIN2.out.off HO.out (by omega) (by omega)
      have hpp := HP2.out.off HO.out (by omega) (by omega)
      have hszo := HO.out.size
      have hkbb : ∃ cs, Blk wr kb 3 cs := by obtain ⟨cs, m, h, _⟩ := HC.out; exact ⟨_, h⟩
      obtain ⟨csk, hkbk⟩ := hkbb
      have cG : wr.cell? ⟨pb, 1, none⟩ = some (.slice (some ⟨w1.heap.size, 0, none⟩) W W) := by rw [hbin.cell]; rfl
      have HCUR := Lib.hid hcur
      have HPP := Lib.hid hpp
      have HVV := Lib.hid (HV2.out.off HO.out (.inr ⟨_, _, HKB2.out, by decide⟩) (.inl hsz1))
      have sM : wrap64 ((H : Int) * (k : Int)) = (M : Int) := by
        have : (H : Int) * (k : Int) = (M : Int) := by rw [hM]; simp
        rw [this]; unfold wrap64; omega
      clear hM hr hbin hpp hcur HM
      go_wp2_with fail
      clear sM er
      refine Can.wp_region_can (fun w' => w'.cell? ⟨pb, 1, none⟩ = some (.slice (some ⟨w1.heap.size, 0, none⟩) W W)) 999 [0, 1, 2, 3, 4, 5, 6, 7, 8, 9, 10, 11, 12, 13, 14] (by kernel_rfl) (by kernel_rfl) (fun _ _ d _ _ h => by cases d <;> exact h) cG (fun hHeld => ?_)
      repeat (refine Can.can_pure (v := ?_) rfl rfl (Or.inl ⟨by rfl, ?_⟩) ?_; rotate_left; (focus ((intro w hSw); (try dsimp only at hSw); go_simp; (try with_reducible rfl))); (try simp only [Act.put, List.getElem_toArray, List.getElem_cons_succ, List.getElem_cons_zero, List.setIfInBounds_toArray, List.set_cons_zero, List.set_cons_succ]))
      refine Can.can_eff rfl rfl (by rfl) (fun K hK => ?_)
      go_simp
      refine hK.out _ _ hHeld (fun hHeld1 => ?_)
      clear hK K
      (try simp only [Act.put, List.getElem_toArray, List.getElem_cons_succ, List.getElem_cons_zero, List.setIfInBounds_toArray, List.set_cons_zero, List.set_cons_succ])
      repeat (refine Can.can_pure (v := ?_) rfl rfl (Or.inl ⟨by rfl, ?_⟩) ?_; rotate_left; (focus ((intro w hSw); (try dsimp only at hSw); go_simp; (try with_reducible rfl))); (try simp only [Act.put, List.getElem_toArray, List.getElem_cons_succ, List.getElem_cons_zero, List.setIfInBounds_toArray, List.set_cons_zero, List.set_cons_succ]))
      refine Can.can_eff rfl rfl (by rfl) (fun K hK => ?_)
      go_simp
      refine (getRow_any p A c W H r w1.heap.size L cur _ HPP.out.drew (HVV.out.rdT.up (bdr (brf wr))) HL.out (by omega) (by omega) HLS.out HCUR.out.drew hcl).mono ?_
      rintro e wg ⟨rfl, hg3, hoff3⟩
      refine hK.out _ _ (by have hbx := (HBIN2.out.off HO.out (by omega) (by omega)).drew.off hoff3 (by omega) (by omega); rw [hbx.cell]; rfl) (fun hHeld2 => ?_)
      clear hK K
      (try simp only [Act.put, List.getElem_toArray, List.getElem_cons_succ, List.getElem_cons_zero, List.setIfInBounds_toArray, List.set_cons_zero, List.set_cons_succ])
      repeat (refine Can.can_pure (v := ?_) rfl rfl (Or.inl ⟨by rfl, ?_⟩) ?_; rotate_left; (focus ((intro w hSw); (try dsimp only at hSw); go_simp; (try with_reducible rfl))); (try simp only [Act.put, List.getElem_toArray, List.getElem_cons_succ, List.getElem_cons_zero, List.setIfInBounds_toArray, List.set_cons_zero, List.set_cons_succ]))
      refine Can.can_done ?_
      obtain ⟨cs0, m0, hk0, hc0, hm0⟩ := HC.out
      have hkg := hk0.drew.off hoff3 (by omega) (by omega)
      have hOg := HO.out.trans ((Off.drew wr kb w1.heap.size).trans hoff3.wide2)
      obtain ⟨hRl, hRT⟩ := row_two HT.out HL.out hrH
      generalize (L.drop (r * W)).take W = Rw at *
      obtain ⟨f1, hf1⟩ : ∃ f1 : Nat → Bool, ∀ i, f (r * W + i) = f1 i := ⟨fun i => f (r * W + i), fun _ => rfl⟩
      have hlumg := hg3.lt
      have hkbg := hkg.lt
      have HG3 := Lib.hid hg3
      have HOG := Lib.hid hOg
      have HRT : Hid (∀ i, i < W → Rw.getD i 0 = if f1 i = true then d else l) := Lib.hid (fun i hi => by rw [← hf1]; exact hRT i hi)
      have HF1 := Lib.hid hf1
      have HRWL := Lib.hid hRl
      have HK0 : Hid (∃ cs m, Blk wg kb 3 (nv cs).toArray ∧ Cnt cs D E m (1 < k ∨ ∃ i, P ≤ i ∧ i < P ∧ f1 i = true) (1 < k ∨ ∃ i, P ≤ i ∧ i < P ∧ f1 i = false) ∧ m + P ≤ 100 * k + P) := Lib.hid
        ⟨cs0, m0, hkg, hc0.weak (fun h => by rcases h with h | ⟨i, h1, h2, -⟩; exact h; omega) (fun h => by rcases h with h | ⟨i, h1, h2, -⟩; exact h; omega), by omega⟩
      clear hHeld hHeld1 hHeld2 hk0 hc0 hm0 hkg hOg hRl hRT hf1 hg3 hoff3 HC HO HPP HVV HCUR cG hkbk hcl
      go_wp2_with fail
      go_loopw [15] (fun iv wr => ∃ j : Nat, P ≤ j ∧ j ≤ Q ∧ iv = .int .i64 j ∧ Hid (∃ cs m, Blk wr kb 3 (nv cs).toArray ∧ Cnt cs D E m (1 < k ∨ ∃ i, P ≤ i ∧ i < j ∧ f1 i = true) (1 < k ∨ ∃ i, P ≤ i ∧ i < j ∧ f1 i = false) ∧ m + P ≤ 100 * k + j) ∧ Hid (Off wg wr kb kb)) (fun iv _ => Q - (intOf iv).toNat)
      case atStart => exact ⟨P, Nat.le_refl _, bQ.1, rfl, HK0, Lib.hid (Off.refl _ _ _)⟩
      case round =>
        rename World => ws
        clear HK0
        obtain ⟨j, hj1, hj2, rfl, HC, HO⟩ := hrel
        by_cases hjl : j < Q
        · obtain ⟨cs, m, hb, hc, hm⟩ := HC.out
          have hlm := HG3.out.off HO.out (by omega) (by omega)
          have c1 : ws.cell? ⟨w1.heap.size, j, none⟩ = some (.int .u8 ((Rw.getD j 0 : Nat) : Int)) := by rw [hlm.cell, List.getElem?_toArray]; exact b8_at _ _ (by rw [HRWL.out]; omega)
          have hty := HRT.out j (by omega)
          obtain ⟨y, hy⟩ : ∃ y, y = Rw.getD j 0 := ⟨_, rfl⟩
          rw [← hy] at c1 hty
          have hyl : y < 256 := by rw [hty]; split <;> omega
          have eA := u8_mask y hyl
          obtain ⟨i, hi⟩ : ∃ i, i = y / 8 := ⟨_, rfl⟩
          have eB : (y : Int) / 8 = (i : Int) := by omega
          have hi32 : i < 32 := by omega
          have hwhich : (f1 j = true → i = D) ∧ (f1 j = false → i = E) := ⟨fun h => by rw [hi, HDE.out.1, hty, if_pos h], fun h => by rw [hi, HDE.out.2, hty, if_neg (by rw [h]; decide)]⟩
          have hcl := hc.len
          have c2 : ws.cell? ⟨kb, i, none⟩ = some (.int .i64 ((cs.getD i 0 : Nat) : Int)) := by rw [hb.cell, List.getElem?_toArray]; exact nv_at _ _ (by omega)
          have f2 := hb.frozen i
          have hle := hc.le i
          have hcs := hc.step i (by cases hf : f1 j; exact .inr (hwhich.2 hf); exact .inl (hwhich.1 hf)) (by omega) hDE.2 (a' := 1 < k ∨ ∃ i, P ≤ i ∧ i < j + 1 ∧ f1 i = true) (b' := 1 < k ∨ ∃ i, P ≤ i ∧ i < j + 1 ∧ f1 i = false)
            (by
              rintro (h | ⟨i', h1, h2, h3⟩)
              · exact .inl (.inl h)
              rcases Nat.lt_or_ge i' j with h | h
              · exact .inl (.inr ⟨i', h1, h, h3⟩)
              · obtain rfl : i' = j := by omega
                exact .inr (hwhich.1 h3))
            (by
              rintro (h | ⟨i', h1, h2, h3⟩)
              · exact .inl (.inl h)
              rcases Nat.lt_or_ge i' j with h | h
              · exact .inl (.inr ⟨i', h1, h, h3⟩)
              · obtain rfl : i' = j := by omega
                exact .inr (hwhich.2 h3))
          have eset : (nv cs).toArray.setIfInBounds i (.int .i64 (((cs.getD i 0 : Nat) : Int) + 1)) = (nv (cs.set i (cs.getD i 0 + 1))).toArray := by rw [← nv_set]; rfl
          have hput := hb.put i (.int .i64 (((cs.getD i 0 : Nat) : Int) + 1))
          rw [eset] at hput
          have HC2 : Hid (∃ cs' m', Blk (ws.setCell ⟨kb, i, none⟩ (.int .i64 (((cs.getD i 0 : Nat) : Int) + 1))) kb 3 (nv cs').toArray ∧ Cnt cs' D E m' (1 < k ∨ ∃ i, P ≤ i ∧ i < j + 1 ∧ f1 i = true) (1 < k ∨ ∃ i, P ≤ i ∧ i < j + 1 ∧ f1 i = false) ∧ m' + P ≤ 100 * k + (j + 1)) := Lib.hid ⟨_, m + 1, hput, hcs, by omega⟩
          have HO2 := Lib.hid (HO.out.trans (Off.put1 ws kb kb i (.int .i64 (((cs.getD i 0 : Nat) : Int) + 1))))
          clear eset
          generalize cs.getD i 0 = z at *
          clear hlm hty hy hi hwhich hcs hput hb hc HC HO
          go_wp2
          go_roundw
          case rel => exact ⟨j + 1, by omega, by omega, by go_num, HC2, HO2⟩
          case measure => simp [intOf]; omega
        · obtain rfl : j = Q := by omega
          have HCn : Hid (∃ cs m, Blk ws kb 3 (nv cs).toArray ∧ Cnt cs D E m (1 < k + 1) (1 < k + 1) ∧ m ≤ 100 * (k + 1)) := Lib.hid (by
            obtain ⟨cs, m, h1, h2, h3⟩ := HC.out
            refine ⟨cs, m, h1, h2.weak (fun _ => ?_) (fun _ => ?_), by omega⟩
            · by_cases h : 1 < k
              · exact .inl h
              · obtain ⟨i, i1, i2, i3⟩ := HD1.out
                have hk1' : k = 1 := by omega
                rw [← HR1.out hk1', HF1.out] at i3
                exact .inr ⟨i, by rw [HPQ.out.1]; exact i1, by rw [HPQ.out.2]; exact i2, i3⟩
            · by_cases h : 1 < k
              · exact .inl h
              · obtain ⟨i, i1, i2, i3⟩ := HL1.out
                have hk1' : k = 1 := by omega
                rw [← HR1.out hk1', HF1.out] at i3
                exact .inr ⟨i, by rw [HPQ.out.1]; exact i1, by rw [HPQ.out.2]; exact i2, i3⟩)
          have HMn : Hid (∃ cur, Blk ws w1.heap.size 5 (b8 cur).toArray ∧ cur.length = W) := Lib.hid ⟨Rw, HG3.out.off HO.out (by omega) (by omega), HRWL.out⟩
          have HOn := Lib.hid (HOG.out.trans (HO.out.wide1 (q := w1.heap.size)))
          clear HC HO HOG HG3 HRT HF1
          go_wp2
          go_roundw
          case rel => exact ⟨k + 1, by omega, by omega, by go_num, HCn, HMn, HOn⟩
          case measure => simp [intOf]; omega
    · obtain rfl : k = 5 := by omega
      obtain ⟨cs, m, hb, hc, hm⟩ := HC.out
      have hc2 : Cnt cs D E m True True := hc.weak (fun _ => by decide) (fun _ => by decide)
      have hlen := hc.len
      go_wp2_with fail
      refine (estimate_two _ _ cs D E m wr (Rd.of_blk hb (by rw [nv_len, hlen]) (by rw [nv_len, hlen]; exact Nat.le_refl _) (by unfold maxLen; omega)) hc2 (by omega) hDE.1 hDE.2).mono ?_
      rintro e w4 ⟨hb4, b, hbD, hbE, rfl⟩
      have hszr := HO.out.size
      have HX4 := Lib.hid ((HX2.out.off HO.out (by omega) (by omega) (by omega) (by omega)).up hb4)
      have HP4 := Lib.hid ((HP2.out.off HO.out (by omega) (by omega)).up hb4)
      have HV4 := Lib.hid ((HV2.out.off HO.out (.inr ⟨_, _, HKB2.out, by decide⟩) (.inl hsz1)).rdT.up hb4)
      have HW4 := Lib.hid ((HO.out.below kb w HW2.out (Nat.le_refl _) (by omega) (by omega)).trans (hb4.mono (by omega)))
      have hsz4 := hb4.size
      have hB : d < 8 * b ∧ 8 * b ≤ l := by have h1 := HDE.out.1; have h2 := HDE.out.2; omega
      generalize 8 * b = B at *
      obtain ⟨hB1, hB2⟩ := hB
      clear hb hc hc2 hlen hb4 HC HM HO HX2 HP2 HV2 HW2 HBIN2 HKB2 HDE hbD hbE hlt HPQ HD1 HL1 eP eQ bQ hm hna
      go_wp2_with fail
      refine (matrix_any p A c W H 0 0 W H L w4 HP4.out HV4.out HL.out (by omega) (by omega) hW hH HLS.out).mono ?_
      rintro e w5 ⟨v5, rfl, hv5, hb5⟩
      rw [part_all _ _ _ HL.out] at hv5
      have HX5 := Lib.hid (HX4.out.up hb5)
      have HW5 := Lib.hid (HW4.out.trans (hb5.mono (by omega)))
      have hsz5 := hb5.size
      obtain ⟨N, hN⟩ : ∃ N, N = W * H := ⟨_, rfl⟩
      have hN1 : 0 < N := by rw [hN]; exact Nat.mul_pos (by omega) (by omega)
      have hN2 : N ≤ 1000000 := by have h := HLS.out; rw [HL.out, ← hN] at h; exact h
      obtain ⟨A', cap', rfl, k1, k2, k3⟩ := hv5
      rw [b8_len, HL.out, ← hN] at k1 k3
      rw [b8_len, HL.out, ← hN]
      obtain ⟨b5, o5, cs5, fr5, rfl, hh, hcc⟩ := k3 hN1
      have hne : b5 ≠ gq := by
        rintro rfl
        obtain ⟨ws, hm1, -⟩ := HX5.out
        have h2 := hm1.rows
        unfold Blk at h2
        rw [hh] at h2
        injection h2 with h2
        injection h2 with _ h3
        exact absurd h3 (by decide)
      have hb5lt := heap_lt hh
      unfold maxLen at k2
      have HC5 : Hid (∀ wx, Off w5 wx gq gq → ∀ j, j < N → wx.cell? ⟨b5, o5 + j, none⟩ = some (.int .u8 ((L.getD j 0 : Nat) : Int))) := Lib.hid (fun wx ho j hj => by
        rw [World.cell?, ho.same b5 hb5lt hne hne, hh]
        simpa using hcc j _ (b8_at L j (by rw [HL.out, ← hN]; exact hj)))
      have HTT : Hid (∀ j, j < N → L.getD j 0 = if f j = true then d else l) := Lib.hid (fun j hj => HT.out j (by rw [HL.out, ← hN]; exact hj))
      have HNN := Lib.hid hN
      have hgq5 : gq < w5.heap.size := by omega
      clear hb5 k3 hcc hh hN HX4 HP4 HV4 HW4 HT
      go_wp2_with fail
      go_loopw [19] (fun iv wr => ∃ y : Nat, y ≤ H ∧ iv = .int .i64 y ∧ Hid (MatAt wr q gq W H (fun a b => f (b * W + a) && decide (b < y))) ∧ Hid (Off w5 wr gq gq)) (fun iv _ => H - (intOf iv).toNat)
      case atStart => exact ⟨0, Nat.zero_le _, rfl, Lib.hid (HX5.out.congr (fun a b _ _ => by simp)), Lib.hid (Off.refl _ _ _)⟩
      case round =>
        rename World => wy
        clear HX5
        obtain ⟨y, hy, rfl, HX, HO⟩ := hrel
        by_cases hyl : y < H
        · obtain ⟨Y, hY⟩ : ∃ Y, Y = y * W := ⟨_, rfl⟩
          have hYN : Y + W ≤ N := by rw [hY, HNN.out, Nat.mul_comm W H]; have := Nat.mul_le_mul_right W (show y + 1 ≤ H by omega); rw [Nat.add_mul, Nat.one_mul] at this; exact this
          have HYY := Lib.hid hY
          have HX2 := Lib.hid (HX.out.congr (f' := fun a b => f (b * W + a) && (decide (b < y) || (decide (b = y) && decide (a < 0)))) (fun a b _ _ => (mat_none _ a b y).symm))
          have sY : wrap64 ((y : Int) * (W : Int)) = (Y : Int) := by
            have : (y : Int) * (W : Int) = (Y : Int) := by rw [hY]; simp
            rw [this]; unfold wrap64; omega
          clear hY HX
          have HSY := Lib.hid sY
          go_wp2_with fail
          clear sY
          go_loopw [21] (fun iv wr => ∃ x : Nat, x ≤ W ∧ iv = .int .i64 x ∧ Hid (MatAt wr q gq W H (fun a b => f (b * W + a) && (decide (b < y) || (decide (b = y) && decide (a < x))))) ∧ Hid (Off w5 wr gq gq)) (fun iv _ => W - (intOf iv).toNat)
          case atStart => exact ⟨0, Nat.zero_le _, rfl, HX2, HO⟩
          case round =>
            rename World => wx
            clear HX2 HO
            obtain ⟨x, hx, rfl, HX, HO⟩ := hrel
            by_cases hxl : x < W
            · obtain ⟨J, hJ⟩ : ∃ J, J = Y + x := ⟨_, rfl⟩
              have eJ : (Y : Int) + (x : Int) = (J : Int) := by omega
              have hJN : J < N := by omega
              have cJ := HC5.out wx HO.out J hJN
              have hty := HTT.out J hJN
              obtain ⟨z, hz⟩ : ∃ z, z = L.getD J 0 := ⟨_, rfl⟩
              rw [← hz] at cJ hty
              have hzl : z < 256 := by rw [hty]; split <;> omega
              have eA := u8_mask z hzl
              have hfJ : f (y * W + x) = f J := by rw [hJ, HYY.out]
              have HFJ := Lib.hid hfJ
              have hszx := HO.out.size
              clear hfJ hz hJ
              have sY := HSY.out
              have sJ : wrap64 ((Y : Int) + (x : Int)) = (J : Int) := by rw [eJ]; clear sY; unfold wrap64; omega
              clear eJ
              by_cases hf : f J = true
              · have hzB : z < B := by rw [hty, if_pos hf]; exact hB1
                have HF := Lib.hid hf
                clear hty hf
                go_wp2_with fail
                clear sY sJ
                refine (matSet_any q gq W H x y _ wx HX.out hxl hyl (by omega) (by omega)).mono ?_
                rintro e w7 ⟨i7, u7, rfl, rfl, hm7⟩
                have HX7 := Lib.hid (hm7.congr (f' := fun a b => f (b * W + a) && (decide (b < y) || (decide (b = y) && decide (a < x + 1)))) (fun a b _ _ => mat_step1 _ a b x y (fun h1 h2 => by rw [h1, h2, HFJ.out]; exact HF.out)))
                have HO7 := Lib.hid (HO.out.trans (Off.put1 wx gq gq i7 u7))
                clear hm7 HX HO
                go_wp2
                go_roundw
                case rel => exact ⟨x + 1, by omega, by go_num, HX7, HO7⟩
                case measure => simp [intOf]; omega
              · have hzB : ¬ z < B := by rw [hty, if_neg hf]; omega
                have hf2 : f J = false := by simpa using hf
                have HF := Lib.hid hf2
                have HX7 := Lib.hid (HX.out.congr (f' := fun a b => f (b * W + a) && (decide (b < y) || (decide (b = y) && decide (a < x + 1)))) (fun a b _ _ => mat_step0 _ a b x y (fun h1 h2 => by rw [h1, h2, HFJ.out]; exact HF.out)))
                clear hty hf hf2 HX
                go_wp2
                go_roundw
                case rel => exact ⟨x + 1, by omega, by go_num, HX7, HO⟩
                case measure => simp [intOf]; omega
            · obtain rfl : x = W := by omega
              have HX7 := Lib.hid (HX.out.congr (f' := fun a b => f (b * x + a) && decide (b < y + 1)) (fun a b ha _ => mat_row _ a b y x ha))
              clear HX
              go_wp2
              go_roundw
              case rel => exact ⟨y + 1, by omega, by go_num, HX7, HO⟩
              case measure => simp [intOf]; omega
        · obtain rfl : y = H := by omega
          have HX7 := Lib.hid (HX.out.congr (f' := fun a b => f (b * W + a)) (fun a b _ hb => by rw [decide_eq_true hb, Bool.and_true]))
          have HW7 := Lib.hid (HO.out.below kb w HW5.out (by omega) (by omega) (by omega))
          clear HX HO
          go_wp2
          go_returns
          exact ⟨q, gq, rfl, HX7.out, HW7.out⟩
end Go.Proofs.Ytimfaplnhlnjlaa
