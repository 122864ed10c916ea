/-
  WALK: common.BitSource: ReadBits.
-/
import Derived.Test.YtjpcajecmfhppaaDoorBs2
namespace Go.Proofs.YtjpcajecmfhppaaDoor
open Go.RowKit

theorem ofInt_8 (a : Nat) (ha : a < 256) : (BitVec.ofInt 8 (a : Int)).toNat = a := by
  rw [BitVec.ofInt_natCast, BitVec.toNat_ofNat]; exact Nat.mod_eq_of_lt (by omega)
theorem byte_and (a b : Nat) (ha : a < 256) (hb : b < 256) : bits .and .u8 (a : Int) (b : Int) = ((a &&& b : Nat) : Int) := by
  have hx : a &&& b < 2 ^ 8 := Nat.and_lt_two_pow _ (by omega)
  show IntKind.u8.wrap ((BitVec.ofInt 8 (a : Int) &&& BitVec.ofInt 8 (b : Int)).toNat : Int) = _
  rw [BitVec.toNat_and, ofInt_8 a ha, ofInt_8 b hb, IntKind.wrap_u8]
  omega
theorem land255 (y : Nat) (h : y < 256) : bits .and .u8 (y : Int) 255 = (y : Int) := by
  have e := byte_and y 255 h (by decide)
  have e2 := Nat.and_two_pow_sub_one_eq_mod y 8
  rw [show 2 ^ 8 - 1 = 255 from rfl, Nat.mod_eq_of_lt (by omega)] at e2
  rw [e2] at e
  exact e
theorem or_add (z y k : Nat) (h : y < 2 ^ k) : z * 2 ^ k ||| y = z * 2 ^ k + y := by
  rw [Nat.mul_comm, Nat.two_pow_add_eq_or_of_lt h]
theorem mask_nat (y t r : Nat) (hy : y < 256) (ht : t < 9) (h : t + r ≤ 8) : (y &&& (255 / 2 ^ (8 - t) * 2 ^ r % 256)) / 2 ^ r = y / 2 ^ r % 2 ^ t :=
  mask_all y hy t ht r (by omega) h
theorem mask_int (x r : Nat) : (255 : Int) / 2 ^ x * 2 ^ r % 256 = ((255 / 2 ^ x * 2 ^ r % 256 : Nat) : Int) := by
  rw [Int.natCast_emod, Int.natCast_mul, Int.natCast_ediv, Int.natCast_pow, Int.natCast_pow]; rfl
/-- What the masks take of a byte. -/
theorem mask_facts (y t r : Nat) (hy : y < 256) (ht : t < 9) (h : t + r ≤ 8) : ∃ M Y : Nat, (255 : Int) / 2 ^ (8 - t) * 2 ^ r % 256 = (M : Int) ∧ bits .and .u8 (y : Int) (M : Int) = (Y : Int) ∧ (Y : Int) / 2 ^ r = ((y / 2 ^ r % 2 ^ t : Nat) : Int) ∧ M < 256 ∧ Y < 256 := by
  have hM : 255 / 2 ^ (8 - t) * 2 ^ r % 256 < 256 := Nat.mod_lt _ (by decide)
  refine ⟨255 / 2 ^ (8 - t) * 2 ^ r % 256, y &&& (255 / 2 ^ (8 - t) * 2 ^ r % 256), mask_int _ _, byte_and _ _ hy hM, ?_, hM, Nat.lt_of_le_of_lt Nat.and_le_left hy⟩
  rw [← mask_nat y t r hy ht h, Int.natCast_ediv, Int.natCast_pow]; rfl
set_option maxRecDepth 100000 in
set_option maxHeartbeats 4000000 in
theorem readBits_any (p q o n : Nat) (sv : Value) (bs : List Nat) (w : World) (h : BsAt w p sv bs q o) (hl : bs.length ≤ 2147483647) (ho : o < 8) (hn1 : 1 ≤ n) (hn : n ≤ 32) (hf : 8 * q + o + n ≤ 8 * bs.length) :
    Calls Tryd.prog 44 #[.pointer (some ⟨p, 0, none⟩), .int .i64 n] w fun e w' => e = .returned (.tuple #[.int .i64 ((rb bs (8 * q + o) n : Nat) : Int), .nilIface]) ∧ BsAt w' p sv bs ((8 * q + o + n) / 8) ((8 * q + o + n) % 8) ∧ Onl p w w' := by
  have hav := available_any p q o sv bs w h hl ho (by omega)
  obtain ⟨A, c, rfl, k1, k2⟩ := h.form
  obtain ⟨R, hR⟩ : ∃ R, R = 8 * bs.length - (8 * q + o) := ⟨_, rfl⟩
  rw [← hR] at hav
  have hR1 : n ≤ R := by omega
  have hR2 : R ≤ 8 * bs.length := by omega
  obtain ⟨P, hP⟩ : ∃ P, P = 8 * q + o := ⟨_, rfl⟩
  rw [← hP] at hf ⊢
  clear hR h
  go_enter Tryd.func44, Tryd.ntmps44
  go_wp2_with fail
  refine hav.mono ?_
  rintro e wz ⟨rfl, hb1, ho1⟩
  obtain ⟨c0, c1, c2, f1, f2⟩ := hb1.cells
  have HZ := Lib.hid hb1; have HO := Lib.hid ho1
  clear hb1 ho1 hav
  by_cases hz : o = 0
  · subst hz
    obtain ⟨t, ht⟩ : ∃ t, t = 0 := ⟨_, rfl⟩
    obtain ⟨Q, hQ⟩ : ∃ Q, Q = q := ⟨_, rfl⟩
    have HT : Hid (P + t = 8 * Q) := Lib.hid (by omega)
    have hm0 : t + n = n := by omega
    have HZ0 : Hid (0 = rb bs P (t + 8 * 0)) := Lib.hid (by rw [ht]; rfl)
    rw [← hQ] at HZ c1
    clear ht hQ hP
    -- stage 2: world wz (HZ, HO), t bits read (HT : 8 * q + o + t = 8 * Q), m0 left (hm0 : t + m0 = n), z0 read
    go_wp2_with fail
    go_loopw [1, 6] (fun nv rv wr => ∃ (k m z : Nat), 8 * k + m = n ∧ nv = .int .i64 (m : Int) ∧ rv = .int .i64 (z : Int) ∧ z < 2 ^ (t + 8 * k) ∧ Hid (z = rb bs P (t + 8 * k)) ∧ Hid (BsAt wr p (.slice A bs.length c) bs (Q + k) 0) ∧ Hid (Onl p w wr)) (fun nv _ _ => (intOf nv).toNat)
    case atStart => exact ⟨0, n, 0, by omega, rfl, rfl, by have h9 := rb_lt bs P (t + 8 * 0); rw [← HZ0.out] at h9; exact h9, HZ0, HZ, HO⟩
    case round =>
      clear HZ HO c0 c1 c2 f1 f2
      obtain ⟨k, m, z, hk, rfl, rfl, hz, HZV, HB, HO⟩ := hrel
      rename World => wr
      obtain ⟨c0, c1, c2, f1, f2⟩ := HB.out.cells
      have hT := HT.out
      by_cases h0 : m = 0
      · subst h0
        clear c0 c1 c2 f1 f2
        go_wp2_with fail
        have e1 : t + 8 * k = n := by omega
        have e2 := HZV.out
        rw [e1] at e2
        subst e2
        go_ret2
        refine ⟨rfl, ?_, HO.out⟩
        rw [show (P + n) / 8 = Q + k by omega, show (P + n) % 8 = 0 by omega]
        exact HB.out
      · obtain ⟨j, hj⟩ : ∃ j, j = Q + k := ⟨_, rfl⟩
        obtain ⟨-, -, -, b, off, rfl, cB, hy⟩ := HB.out.byte (i := j) (by omega)
        rw [← hj] at c1
        have HB1 : Hid (BsAt wr p (.slice (some ⟨b, off, none⟩) bs.length c) bs j 0) := Lib.hid (by rw [hj]; exact HB.out)
        have hin : ∀ s, s ≤ 8 → rb bs P (t + 8 * k + s) = z * 2 ^ s + bs.getD j 0 / 2 ^ (8 - s) % 2 ^ s := fun s hs => by
          have e := rb_in bs j 0 s (by omega)
          rw [rb_add, ← HZV.out, show P + (t + 8 * k) = 8 * j + 0 by omega, e]
        have HIN := Lib.hid hin
        have hzb : t + 8 * k ≤ 31 := by omega
        have hjl : j < bs.length := by omega
        have HJ := Lib.hid hj
        clear hin HB hj
        obtain ⟨y, hyv⟩ : ∃ y, y = bs.getD j 0 := ⟨_, rfl⟩
        rw [← hyv] at cB hy HIN
        clear hyv
        by_cases h8 : 8 ≤ m
        · have hz24 : z < 2 ^ 24 := Nat.lt_of_lt_of_le hz (Nat.pow_le_pow_right (by decide) (by omega))
          obtain ⟨z8, hz8⟩ : ∃ x, x = z * 256 := ⟨_, rfl⟩
          have d1 : (z : Int) * 256 = (z8 : Int) := by omega
          have d2 := land255 y hy
          obtain ⟨z2, hz2⟩ : ∃ x, x = z8 + y := ⟨_, rfl⟩
          have d3 : bits .or .i64 (z8 : Int) (y : Int) = (z2 : Int) := by
            rw [i64_or z8 y (by omega) (by omega), hz2, hz8]
            exact congrArg _ (or_add z y 8 (by omega))
          have HZ2 : Hid (z2 = rb bs P (t + 8 * (k + 1))) := Lib.hid (by
            have e := HIN.out 8 (Nat.le_refl _)
            rw [show t + 8 * (k + 1) = t + 8 * k + 8 by omega, e, hz2, hz8]
            simp
            omega)
          have hz2b : z2 < 4294967296 := by omega
          have hz8b : z8 < 4294967296 := by omega
          have w1 : IntKind.i64.wrap (z8 : Int) = (z8 : Int) := by rw [IntKind.wrap_i64]; omega
          have w3 : IntKind.i64.wrap (y : Int) = (y : Int) := by rw [IntKind.wrap_i64]; omega
          have w2 : IntKind.i64.wrap (j : Int) = (j : Int) := by rw [IntKind.wrap_i64]; omega
          clear hz8 hz2 hz24 hz HZV HIN
          go_wp2_with fail
          refine Can.wp_region_can (fun w' => w'.cell? ⟨p, 0, none⟩ = some (.slice (some ⟨b, off, none⟩) bs.length c) ∧ w'.cell? ⟨p, 1, none⟩ = some (.int .i64 j) ∧ w'.cell? ⟨b, off + j, none⟩ = some (.int .u8 y)) 999 [0, 1, 2, 3, 4, 5, 6, 7, 8, 9, 10, 11, 12, 13, 14, 15] (by kernel_rfl) (by kernel_rfl) (fun _ _ d _ _ h => by cases d <;> exact h) ⟨c0, c1, cB⟩ (fun hHeld => ?_)
          repeat (refine Can.can_pure (v := ?_) rfl rfl (Or.inl ⟨by rfl, ?_⟩) ?_; rotate_left; (focus ((intro w hSw); (try dsimp only at hSw); go_simp; (try with_reducible rfl))); (try simp only [Act.put, List.getElem_toArray, List.getElem_cons_succ, List.getElem_cons_zero, List.setIfInBounds_toArray, List.set_cons_zero, List.set_cons_succ]))
          refine Can.can_done ?_
          have HB3 := Lib.hid HB1.out.drew
          have HO3 := Lib.hid HO.out.drew
          have c1 : (World.drew wr).cell? ⟨p, 1, none⟩ = some (.int .i64 j) := hHeld.2.1
          have f1 : (World.drew wr).frozen? ⟨p, 1, none⟩ = false := f1
          clear hHeld HB1 HO cB d1 d2 d3 w1
          generalize World.drew wr = wq at *
          have HB4 := Lib.hid (HB3.out.put1 (j + 1))
          have HO4 := Lib.hid (HO3.out.put 1 (.int .i64 ((j + 1 : Nat) : Int)))
          have d4 : (m : Int) - 8 = ((m - 8 : Nat) : Int) := by omega
          have hk2 : 8 * (k + 1) + (m - 8) = n := by omega
          generalize m - 8 = m8 at *
          go_wp2_with fail
          go_roundw
          case rel => exact ⟨k + 1, m8, z2, hk2, rfl, rfl, by rw [HZ2.out]; exact rb_lt _ _ _, HZ2, Lib.hid (by rw [← Nat.add_assoc, ← HJ.out]; exact HB4.out), HO4⟩
          case measure => simp [intOf]; omega
        · have hm7 : m ≤ 7 := by omega
          have hm1 : 0 < m := by omega
          obtain ⟨r, hr⟩ : ∃ r, r = 8 - m := ⟨_, rfl⟩
          have d0 : (8 : Int) - (m : Int) = (r : Int) := by omega
          obtain ⟨M, Y, d1, d2, d3, hM, hY⟩ := mask_facts y m r hy (by omega) (by omega)
          rw [← hr] at d1
          have hin := HIN.out m (by omega)
          rw [← hr, show t + 8 * k + m = n by omega] at hin
          obtain ⟨y2, hy2⟩ : ∃ x, x = y / 2 ^ r % 2 ^ m := ⟨_, rfl⟩
          have hy2b : y2 < 2 ^ m := by rw [hy2]; exact Nat.mod_lt _ (Nat.two_pow_pos m)
          have hm128 : 2 ^ m ≤ 2 ^ 7 := Nat.pow_le_pow_right (by decide) hm7
          rw [← hy2] at d3 hin
          obtain ⟨zm, hzm⟩ : ∃ x, x = z * 2 ^ m := ⟨_, rfl⟩
          have hzmb : zm < 2 ^ 32 := by
            have h9 : z * 2 ^ m < 2 ^ (t + 8 * k) * 2 ^ m := Nat.mul_lt_mul_of_pos_right hz (Nat.two_pow_pos m)
            rw [← Nat.pow_add] at h9
            rw [hzm]
            exact Nat.lt_of_lt_of_le h9 (Nat.pow_le_pow_right (by decide) (by omega))
          have d4 : (z : Int) * 2 ^ m = (zm : Int) := by rw [hzm]; simp
          have d5 : bits .or .i64 (zm : Int) (y2 : Int) = ((zm + y2 : Nat) : Int) := by
            rw [i64_or zm y2 (by omega) (by omega), hzm]
            exact congrArg _ (or_add z y2 m hy2b)
          rw [← hzm] at hin
          obtain ⟨z2, hz2⟩ : ∃ x, x = zm + y2 := ⟨_, rfl⟩
          rw [← hz2] at d5 hin
          have HZ2 := Lib.hid hin
          have w1 : IntKind.i64.wrap (zm : Int) = (zm : Int) := by rw [IntKind.wrap_i64]; omega
          have w2 : IntKind.i64.wrap (j : Int) = (j : Int) := by rw [IntKind.wrap_i64]; omega
          have w3 : IntKind.i64.wrap (y2 : Int) = (y2 : Int) := by rw [IntKind.wrap_i64]; omega
          have w4 : IntKind.u64.wrap (m : Int) = (m : Int) := by rw [IntKind.wrap_u64]; omega
          have w5 : min m 64 = m := by omega
          have hy2c : y2 < 256 := by omega
          have hr8 : r ≤ 8 := by omega
          clear hin hy2 hy2b hm128 hzm hz2 hr hz HZV HIN
          go_wp2_with fail
          rw [d1]
          refine Can.wp_region_can (fun w' => w'.cell? ⟨p, 0, none⟩ = some (.slice (some ⟨b, off, none⟩) bs.length c) ∧ w'.cell? ⟨p, 1, none⟩ = some (.int .i64 j) ∧ w'.cell? ⟨b, off + j, none⟩ = some (.int .u8 y)) 999 [0, 1, 2, 3, 4, 5, 6, 7, 8, 9, 10, 11, 12, 13, 14, 15, 16, 17, 18, 19, 20] (by kernel_rfl) (by kernel_rfl) (fun _ _ d _ _ h => by cases d <;> exact h) ⟨c0, c1, cB⟩ (fun hHeld => ?_)
          repeat (refine Can.can_pure (v := ?_) rfl rfl (Or.inl ⟨by rfl, ?_⟩) ?_; rotate_left; (focus ((intro w hSw); (try dsimp only at hSw); go_simp; (try with_reducible rfl))); (try simp only [Act.put, List.getElem_toArray, List.getElem_cons_succ, List.getElem_cons_zero, List.setIfInBounds_toArray, List.set_cons_zero, List.set_cons_succ]))
          refine Can.can_done ?_
          have HB3 := Lib.hid HB1.out.drew
          have HO3 := Lib.hid HO.out.drew
          have c2 : (World.drew wr).cell? ⟨p, 2, none⟩ = some (.int .i64 0) := c2
          have f2 : (World.drew wr).frozen? ⟨p, 2, none⟩ = false := f2
          clear hHeld HB1 HO cB d1 d2 d3 d4 d5 w1 w2 w3 w4 w5 c0 c1 f1
          generalize World.drew wr = wq at *
          have HB4 := Lib.hid (HB3.out.put2 m)
          have HO4 := Lib.hid (HO3.out.put 2 (.int .i64 (m : Int)))
          have he1 : (P + n) / 8 = j := by have := HJ.out; omega
          have he2 : (P + n) % 8 = m := by omega
          have HE := Lib.hid (And.intro he1 he2)
          clear he1 he2
          go_wp2_with fail
          go_ret2
          rw [HE.out.1, HE.out.2, HZ2.out]
          exact ⟨rfl, HB4.out, HO4.out⟩
  · obtain ⟨bl, hbl⟩ : ∃ bl, bl = 8 - o := ⟨_, rfl⟩
    have ho0 : 0 < o := by omega
    have hz1 : ¬ (o : Int) = 0 := by omega
    have e1 : (8 : Int) - (o : Int) = (bl : Int) := by omega
    have hbl1 : 0 < bl ∧ bl < 8 := by omega
    have hql : q < bs.length := by omega
    obtain ⟨-, -, -, b, off, hA, cB, hy⟩ := HZ.out.byte (i := q) (by omega)
    rw [hA] at c0
    clear hA
    have hin : ∀ s, o + s ≤ 8 → rb bs P s = bs.getD q 0 / 2 ^ (8 - o - s) % 2 ^ s := fun s hs => by rw [hP]; exact rb_in bs q o s hs
    obtain ⟨y, hyv⟩ : ∃ y, y = bs.getD q 0 := ⟨_, rfl⟩
    rw [← hyv] at cB hy hin
    have HPO := Lib.hid hP
    have w2 : IntKind.i64.wrap (q : Int) = (q : Int) := by rw [IntKind.wrap_i64]; omega
    clear hyv hP
    by_cases hB : n < bl
    · obtain ⟨r, hr⟩ : ∃ r, r = bl - n := ⟨_, rfl⟩
      obtain ⟨tx, htx⟩ : ∃ x, x = 8 - n := ⟨_, rfl⟩
      obtain ⟨o1, ho1⟩ : ∃ x, x = o + n := ⟨_, rfl⟩
      have e2 : (bl : Int) - (n : Int) = (r : Int) := by omega
      have e3 : (8 : Int) - (n : Int) = (tx : Int) := by omega
      have e4 : (o : Int) + (n : Int) = (o1 : Int) := by omega
      have ho8 : o1 < 8 := by omega
      obtain ⟨M, Y, d1, d2, d3, hM, hY⟩ := mask_facts y n r hy (by omega) (by omega)
      rw [← htx] at d1
      have hv := hin n (by omega)
      rw [show 8 - o - n = r by omega] at hv
      rw [← hv] at d3
      have hz9 := rb_lt bs P n
      have hz10 : 2 ^ n ≤ 2 ^ 8 := Nat.pow_le_pow_right (by decide) (by omega)
      obtain ⟨z, hzv⟩ : ∃ z, z = rb bs P n := ⟨_, rfl⟩
      rw [← hzv] at d3 hz9
      have hzb : z < 256 := by omega
      have HZV := Lib.hid hzv
      have he1 : (P + n) / 8 = q := by have := HPO.out; omega
      have he2 : (P + n) % 8 = o1 := by have := HPO.out; omega
      have HE := Lib.hid (And.intro he1 he2)
      have hr8 : r ≤ 8 := by omega
      have htx8 : tx ≤ 8 := by omega
      have w1 : IntKind.i64.wrap (Y : Int) = (Y : Int) := by rw [IntKind.wrap_i64]; omega
      have w4 : IntKind.u64.wrap (r : Int) = (r : Int) := by rw [IntKind.wrap_u64]; omega
      have w5 : min r 64 = r := by omega
      clear hv hz9 hz10 hr htx ho1 hin hzv he1 he2 hbl
      go_wp2_with fail
      rw [d1]
      refine Can.wp_region_can (fun w' => w'.cell? ⟨p, 0, none⟩ = some (.slice (some ⟨b, off, none⟩) bs.length c) ∧ w'.cell? ⟨p, 1, none⟩ = some (.int .i64 q) ∧ w'.cell? ⟨b, off + q, none⟩ = some (.int .u8 y)) 999 [0, 1, 2, 3, 4, 5, 6, 7, 8, 9, 10, 11, 12, 13, 14, 15] (by kernel_rfl) (by kernel_rfl) (fun _ _ d _ _ h => by cases d <;> exact h) ⟨c0, c1, cB⟩ (fun hHeld => ?_)
      repeat (refine Can.can_pure (v := ?_) rfl rfl (Or.inl ⟨by rfl, ?_⟩) ?_; rotate_left; (focus ((intro w hSw); (try dsimp only at hSw); go_simp; (try with_reducible rfl))); (try simp only [Act.put, List.getElem_toArray, List.getElem_cons_succ, List.getElem_cons_zero, List.setIfInBounds_toArray, List.set_cons_zero, List.set_cons_succ]))
      refine Can.can_done ?_
      have HB3 := Lib.hid HZ.out.drew
      have HO3 := Lib.hid HO.out.drew
      have c2 : (World.drew wz).cell? ⟨p, 2, none⟩ = some (.int .i64 o) := c2
      have f2 : (World.drew wz).frozen? ⟨p, 2, none⟩ = false := f2
      clear hHeld HZ HO cB d1 d2 d3 w1 w2 w4 w5 c0 c1 f1
      generalize World.drew wz = wq at *
      have HB4 := Lib.hid (HB3.out.put2 o1)
      have HO4 := Lib.hid (HO3.out.put 2 (.int .i64 (o1 : Int)))
      go_wp2_with fail
      go_ret2
      rw [HE.out.1, HE.out.2, ← HZV.out]
      exact ⟨rfl, HB4.out, HO4.out⟩
    · have e2 : (8 : Int) - (bl : Int) = (o : Int) := by omega
      have e4 : (o : Int) + (bl : Int) = 8 := by omega
      obtain ⟨M, Y, d1, d2, d3, hM, hY⟩ := mask_facts y bl 0 hy (by omega) (by omega)
      rw [show 8 - bl = o by omega] at d1
      have d1 : (255 : Int) / 2 ^ o % 256 = (M : Int) := by simpa using d1
      have hv := hin bl (by omega)
      rw [show 8 - o - bl = 0 by omega] at hv
      rw [← hv] at d3
      rw [Int.pow_zero, Int.ediv_one] at d3
      have hd3 : Y = rb bs P bl := by omega
      subst hd3
      have HE0 := Lib.hid (And.intro hbl HPO.out)
      obtain ⟨z, hzv⟩ : ∃ z, z = rb bs P bl := ⟨_, rfl⟩
      rw [← hzv] at d2 hY
      obtain ⟨m0, hm⟩ : ∃ m, m = n - bl := ⟨_, rfl⟩
      have e5 : (n : Int) - (bl : Int) = (m0 : Int) := by omega
      have hm0 : bl + m0 = n := by omega
      have HZV := Lib.hid hzv
      have w1 : IntKind.i64.wrap (z : Int) = (z : Int) := by rw [IntKind.wrap_i64]; omega
      clear hv d3 hin hzv hbl hm
      go_wp2_with fail
      rw [d1]
      refine Can.wp_region_can (fun w' => w'.cell? ⟨p, 0, none⟩ = some (.slice (some ⟨b, off, none⟩) bs.length c) ∧ w'.cell? ⟨p, 1, none⟩ = some (.int .i64 q) ∧ w'.cell? ⟨b, off + q, none⟩ = some (.int .u8 y)) 999 [0, 1, 2, 3, 4, 5, 6, 7, 8, 9, 10, 11, 12, 13, 14, 15] (by kernel_rfl) (by kernel_rfl) (fun _ _ d _ _ h => by cases d <;> exact h) ⟨c0, c1, cB⟩ (fun hHeld => ?_)
      repeat (refine Can.can_pure (v := ?_) rfl rfl (Or.inl ⟨by rfl, ?_⟩) ?_; rotate_left; (focus ((intro w hSw); (try dsimp only at hSw); go_simp; (try with_reducible rfl))); (try simp only [Act.put, List.getElem_toArray, List.getElem_cons_succ, List.getElem_cons_zero, List.setIfInBounds_toArray, List.set_cons_zero, List.set_cons_succ]))
      refine Can.can_done ?_
      have HB3 := Lib.hid HZ.out.drew
      have HO3 := Lib.hid HO.out.drew
      have c1 : (World.drew wz).cell? ⟨p, 1, none⟩ = some (.int .i64 q) := c1
      have f1 : (World.drew wz).frozen? ⟨p, 1, none⟩ = false := f1
      have c2 : (World.drew wz).cell? ⟨p, 2, none⟩ = some (.int .i64 o) := c2
      have f2 : (World.drew wz).frozen? ⟨p, 2, none⟩ = false := f2
      clear hHeld HZ HO cB d1 d2 w1 w2 c0
      generalize World.drew wz = wq at *
      obtain ⟨Q, hQ⟩ : ∃ Q, Q = q + 1 := ⟨_, rfl⟩
      have e6 : (q : Int) + 1 = (Q : Int) := by omega
      have hT : P + bl = 8 * Q := by have := HE0.out; omega
      have HT := Lib.hid hT
      have HZ : Hid (BsAt (((wq.setCell ⟨p, 2, none⟩ (.int .i64 8)).setCell ⟨p, 2, none⟩ (.int .i64 0)).setCell ⟨p, 1, none⟩ (.int .i64 (Q : Int))) p (.slice A bs.length c) bs Q 0) := Lib.hid (((HB3.out.put2 8).put2 0).put1 Q)
      have HO : Hid (Onl p w (((wq.setCell ⟨p, 2, none⟩ (.int .i64 8)).setCell ⟨p, 2, none⟩ (.int .i64 0)).setCell ⟨p, 1, none⟩ (.int .i64 (Q : Int)))) := Lib.hid (((HO3.out.put 2 _).put 2 _).put 1 _)
      clear HB3 HO3 hQ hT
      by_cases hm00 : m0 = 0
      · subst hm00
        have hnb : bl = n := by omega
        have e7 : (o : Int) + (n : Int) = 8 := by omega
        have he1 : (P + n) / 8 = Q := by have := HT.out; omega
        have he2 : (P + n) % 8 = 0 := by have := HT.out; omega
        have HE := Lib.hid (And.intro he1 he2)
        have hzn : z = rb bs P n := by rw [← hnb]; exact HZV.out
        have HZN := Lib.hid hzn
        clear he1 he2 hzn
        go_wp2_with fail
        go_ret2
        rw [HE.out.1, HE.out.2, ← HZN.out]
        exact ⟨rfl, HZ.out, HO.out⟩
      · obtain ⟨t, rfl⟩ : ∃ t, t = bl := ⟨_, rfl⟩
        have HZ0 : Hid (z = rb bs P (t + 8 * 0)) := HZV
        have hmp : 0 < m0 := by omega
        clear HZV HE0 HPO hm00
        have c0 : True := trivial
        -- stage 2: world wz (HZ, HO), t bits read (HT : 8 * q + o + t = 8 * Q), m0 left (hm0 : t + m0 = n), z0 read
        go_wp2_with fail
        go_loopw [1, 6] (fun nv rv wr => ∃ (k m z : Nat), 8 * k + m = m0 ∧ nv = .int .i64 (m : Int) ∧ rv = .int .i64 (z : Int) ∧ z < 2 ^ (t + 8 * k) ∧ Hid (z = rb bs P (t + 8 * k)) ∧ Hid (BsAt wr p (.slice A bs.length c) bs (Q + k) 0) ∧ Hid (Onl p w wr)) (fun nv _ _ => (intOf nv).toNat)
        case atStart => exact ⟨0, m0, z, by omega, rfl, rfl, by have h9 := rb_lt bs P (t + 8 * 0); rw [← HZ0.out] at h9; exact h9, HZ0, HZ, HO⟩
        case round =>
          clear HZ HO c0 c1 c2 f1 f2
          obtain ⟨k, m, z, hk, rfl, rfl, hz, HZV, HB, HO⟩ := hrel
          rename World => wr
          obtain ⟨c0, c1, c2, f1, f2⟩ := HB.out.cells
          have hT := HT.out
          by_cases h0 : m = 0
          · subst h0
            clear c0 c1 c2 f1 f2
            go_wp2_with fail
            have e1 : t + 8 * k = n := by omega
            have e2 := HZV.out
            rw [e1] at e2
            subst e2
            go_ret2
            refine ⟨rfl, ?_, HO.out⟩
            rw [show (P + n) / 8 = Q + k by omega, show (P + n) % 8 = 0 by omega]
            exact HB.out
          · obtain ⟨j, hj⟩ : ∃ j, j = Q + k := ⟨_, rfl⟩
            obtain ⟨-, -, -, b, off, rfl, cB, hy⟩ := HB.out.byte (i := j) (by omega)
            rw [← hj] at c1
            have HB1 : Hid (BsAt wr p (.slice (some ⟨b, off, none⟩) bs.length c) bs j 0) := Lib.hid (by rw [hj]; exact HB.out)
            have hin : ∀ s, s ≤ 8 → rb bs P (t + 8 * k + s) = z * 2 ^ s + bs.getD j 0 / 2 ^ (8 - s) % 2 ^ s := fun s hs => by
              have e := rb_in bs j 0 s (by omega)
              rw [rb_add, ← HZV.out, show P + (t + 8 * k) = 8 * j + 0 by omega, e]
            have HIN := Lib.hid hin
            have hzb : t + 8 * k ≤ 31 := by omega
            have hjl : j < bs.length := by omega
            have HJ := Lib.hid hj
            clear hin HB hj
            obtain ⟨y, hyv⟩ : ∃ y, y = bs.getD j 0 := ⟨_, rfl⟩
            rw [← hyv] at cB hy HIN
            clear hyv
            by_cases h8 : 8 ≤ m
            · have hz24 : z < 2 ^ 24 := Nat.lt_of_lt_of_le hz (Nat.pow_le_pow_right (by decide) (by omega))
              obtain ⟨z8, hz8⟩ : ∃ x, x = z * 256 := ⟨_, rfl⟩
              have d1 : (z : Int) * 256 = (z8 : Int) := by omega
              have d2 := land255 y hy
              obtain ⟨z2, hz2⟩ : ∃ x, x = z8 + y := ⟨_, rfl⟩
              have d3 : bits .or .i64 (z8 : Int) (y : Int) = (z2 : Int) := by
                rw [i64_or z8 y (by omega) (by omega), hz2, hz8]
                exact congrArg _ (or_add z y 8 (by omega))
              have HZ2 : Hid (z2 = rb bs P (t + 8 * (k + 1))) := Lib.hid (by
                have e := HIN.out 8 (Nat.le_refl _)
                rw [show t + 8 * (k + 1) = t + 8 * k + 8 by omega, e, hz2, hz8]
                simp
                omega)
              have hz2b : z2 < 4294967296 := by omega
              have hz8b : z8 < 4294967296 := by omega
              have w1 : IntKind.i64.wrap (z8 : Int) = (z8 : Int) := by rw [IntKind.wrap_i64]; omega
              have w3 : IntKind.i64.wrap (y : Int) = (y : Int) := by rw [IntKind.wrap_i64]; omega
              have w2 : IntKind.i64.wrap (j : Int) = (j : Int) := by rw [IntKind.wrap_i64]; omega
              clear hz8 hz2 hz24 hz HZV HIN
              go_wp2_with fail
              refine Can.wp_region_can (fun w' => w'.cell? ⟨p, 0, none⟩ = some (.slice (some ⟨b, off, none⟩) bs.length c) ∧ w'.cell? ⟨p, 1, none⟩ = some (.int .i64 j) ∧ w'.cell? ⟨b, off + j, none⟩ = some (.int .u8 y)) 999 [0, 1, 2, 3, 4, 5, 6, 7, 8, 9, 10, 11, 12, 13, 14, 15] (by kernel_rfl) (by kernel_rfl) (fun _ _ d _ _ h => by cases d <;> exact h) ⟨c0, c1, cB⟩ (fun hHeld => ?_)
              repeat (refine Can.can_pure (v := ?_) rfl rfl (Or.inl ⟨by rfl, ?_⟩) ?_; rotate_left; (focus ((intro w hSw); (try dsimp only at hSw); go_simp; (try with_reducible rfl))); (try simp only [Act.put, List.getElem_toArray, List.getElem_cons_succ, List.getElem_cons_zero, List.setIfInBounds_toArray, List.set_cons_zero, List.set_cons_succ]))
              refine Can.can_done ?_
              have HB3 := Lib.hid HB1.out.drew
              have HO3 := Lib.hid HO.out.drew
              have c1 : (World.drew wr).cell? ⟨p, 1, none⟩ = some (.int .i64 j) := hHeld.2.1
              have f1 : (World.drew wr).frozen? ⟨p, 1, none⟩ = false := f1
              clear hHeld HB1 HO cB d1 d2 d3 w1
              generalize World.drew wr = wq at *
              have HB4 := Lib.hid (HB3.out.put1 (j + 1))
              have HO4 := Lib.hid (HO3.out.put 1 (.int .i64 ((j + 1 : Nat) : Int)))
              have d4 : (m : Int) - 8 = ((m - 8 : Nat) : Int) := by omega
              have hk2 : 8 * (k + 1) + (m - 8) = m0 := by omega
              generalize m - 8 = m8 at *
              go_wp2_with fail
              go_roundw
              case rel => exact ⟨k + 1, m8, z2, hk2, rfl, rfl, by rw [HZ2.out]; exact rb_lt _ _ _, HZ2, Lib.hid (by rw [← Nat.add_assoc, ← HJ.out]; exact HB4.out), HO4⟩
              case measure => simp [intOf]; omega
            · have hm7 : m ≤ 7 := by omega
              have hm1 : 0 < m := by omega
              obtain ⟨r, hr⟩ : ∃ r, r = 8 - m := ⟨_, rfl⟩
              have d0 : (8 : Int) - (m : Int) = (r : Int) := by omega
              obtain ⟨M, Y, d1, d2, d3, hM, hY⟩ := mask_facts y m r hy (by omega) (by omega)
              rw [← hr] at d1
              have hin := HIN.out m (by omega)
              rw [← hr, show t + 8 * k + m = n by omega] at hin
              obtain ⟨y2, hy2⟩ : ∃ x, x = y / 2 ^ r % 2 ^ m := ⟨_, rfl⟩
              have hy2b : y2 < 2 ^ m := by rw [hy2]; exact Nat.mod_lt _ (Nat.two_pow_pos m)
              have hm128 : 2 ^ m ≤ 2 ^ 7 := Nat.pow_le_pow_right (by decide) hm7
              rw [← hy2] at d3 hin
              obtain ⟨zm, hzm⟩ : ∃ x, x = z * 2 ^ m := ⟨_, rfl⟩
              have hzmb : zm < 2 ^ 32 := by
                have h9 : z * 2 ^ m < 2 ^ (t + 8 * k) * 2 ^ m := Nat.mul_lt_mul_of_pos_right hz (Nat.two_pow_pos m)
                rw [← Nat.pow_add] at h9
                rw [hzm]
                exact Nat.lt_of_lt_of_le h9 (Nat.pow_le_pow_right (by decide) (by omega))
              have d4 : (z : Int) * 2 ^ m = (zm : Int) := by rw [hzm]; simp
              have d5 : bits .or .i64 (zm : Int) (y2 : Int) = ((zm + y2 : Nat) : Int) := by
                rw [i64_or zm y2 (by omega) (by omega), hzm]
                exact congrArg _ (or_add z y2 m hy2b)
              rw [← hzm] at hin
              obtain ⟨z2, hz2⟩ : ∃ x, x = zm + y2 := ⟨_, rfl⟩
              rw [← hz2] at d5 hin
              have HZ2 := Lib.hid hin
              have w1 : IntKind.i64.wrap (zm : Int) = (zm : Int) := by rw [IntKind.wrap_i64]; omega
              have w2 : IntKind.i64.wrap (j : Int) = (j : Int) := by rw [IntKind.wrap_i64]; omega
              have w3 : IntKind.i64.wrap (y2 : Int) = (y2 : Int) := by rw [IntKind.wrap_i64]; omega
              have w4 : IntKind.u64.wrap (m : Int) = (m : Int) := by rw [IntKind.wrap_u64]; omega
              have w5 : min m 64 = m := by omega
              have hy2c : y2 < 256 := by omega
              have hr8 : r ≤ 8 := by omega
              clear hin hy2 hy2b hm128 hzm hz2 hr hz HZV HIN
              go_wp2_with fail
              rw [d1]
              refine Can.wp_region_can (fun w' => w'.cell? ⟨p, 0, none⟩ = some (.slice (some ⟨b, off, none⟩) bs.length c) ∧ w'.cell? ⟨p, 1, none⟩ = some (.int .i64 j) ∧ w'.cell? ⟨b, off + j, none⟩ = some (.int .u8 y)) 999 [0, 1, 2, 3, 4, 5, 6, 7, 8, 9, 10, 11, 12, 13, 14, 15, 16, 17, 18, 19, 20] (by kernel_rfl) (by kernel_rfl) (fun _ _ d _ _ h => by cases d <;> exact h) ⟨c0, c1, cB⟩ (fun hHeld => ?_)
              repeat (refine Can.can_pure (v := ?_) rfl rfl (Or.inl ⟨by rfl, ?_⟩) ?_; rotate_left; (focus ((intro w hSw); (try dsimp only at hSw); go_simp; (try with_reducible rfl))); (try simp only [Act.put, List.getElem_toArray, List.getElem_cons_succ, List.getElem_cons_zero, List.setIfInBounds_toArray, List.set_cons_zero, List.set_cons_succ]))
              refine Can.can_done ?_
              have HB3 := Lib.hid HB1.out.drew
              have HO3 := Lib.hid HO.out.drew
              have c2 : (World.drew wr).cell? ⟨p, 2, none⟩ = some (.int .i64 0) := c2
              have f2 : (World.drew wr).frozen? ⟨p, 2, none⟩ = false := f2
              clear hHeld HB1 HO cB d1 d2 d3 d4 d5 w1 w2 w3 w4 w5 c0 c1 f1
              generalize World.drew wr = wq at *
              have HB4 := Lib.hid (HB3.out.put2 m)
              have HO4 := Lib.hid (HO3.out.put 2 (.int .i64 (m : Int)))
              have he1 : (P + n) / 8 = j := by have := HJ.out; omega
              have he2 : (P + n) % 8 = m := by omega
              have HE := Lib.hid (And.intro he1 he2)
              clear he1 he2
              go_wp2_with fail
              go_ret2
              rw [HE.out.1, HE.out.2, HZ2.out]
              exact ⟨rfl, HB4.out, HO4.out⟩
set_option maxRecDepth 100000 in
theorem readBits_no (p q o n : Nat) (sv : Value) (bs : List Nat) (w : World) (h : BsAt w p sv bs q o) (hl : bs.length ≤ 2147483647) (ho : o < 8) (hq : 8 * q + o ≤ 8 * bs.length) (hn1 : 1 ≤ n) (hn : n ≤ 32) (hf : 8 * bs.length < 8 * q + o + n) :
    Calls Tryd.prog 44 #[.pointer (some ⟨p, 0, none⟩), .int .i64 n] w fun e w' => (∃ t x, e = .returned (.tuple #[.int .i64 0, .iface t x])) ∧ BsAt w' p sv bs q o ∧ Onl p w w' := by
  have hav := available_any p q o sv bs w h hl ho hq
  obtain ⟨R, hR⟩ : ∃ R, R = 8 * bs.length - (8 * q + o) := ⟨_, rfl⟩
  rw [← hR] at hav
  have hR1 : R < n := by omega
  have hR2 : R ≤ 8 * bs.length := by omega
  clear hR h
  go_enter Tryd.func44, Tryd.ntmps44
  go_wp2_with fail
  refine hav.mono ?_
  rintro e wz ⟨rfl, hb1, ho1⟩
  have HZ := Lib.hid hb1; have HO := Lib.hid ho1
  clear hb1 ho1 hav
  go_wp2_with fail
  refine (errNew_any _ _).mono ?_
  rintro e w2 ⟨b, rfl, hb2⟩
  have HZ2 := Lib.hid (HZ.out.up hb2)
  have HO2 := Lib.hid (HO.out.trans (Onl.of_below hb2))
  clear hb2
  go_wp2_with fail
  go_ret2
  exact ⟨⟨_, _, rfl⟩, HZ2.out, HO2.out⟩
end Go.Proofs.YtjpcajecmfhppaaDoor
