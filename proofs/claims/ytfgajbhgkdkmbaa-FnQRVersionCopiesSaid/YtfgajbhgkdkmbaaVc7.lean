/-
  THE WALK OF THE LAW FnQRVersionCopies.
-/
import Derived.Test.YtfgajbhgkdkmbaaVc6
namespace Go.Proofs.Ytfgajbhgkdkmbaa
open Go.RowKit

theorem and_lt18 (x y : Nat) (h : x < 262144) : x &&& y < 262144 := Nat.lt_of_le_of_lt Nat.and_le_left h
/-- What a copy is made of. -/
def copyN (v a : Nat) (h : Bool) : Nat := if h = true then verBits v ^^^ (a &&& (a / 2 ^ 5) &&& (a / 2 ^ 9)) else a
theorem copyN_lt (v a : Nat) (h : Bool) (hv : v ≤ 40) (ha : a < 262144) : copyN v a h < 262144 := by
  unfold copyN
  split
  · exact Nat.xor_lt_two_pow (n := 18) (verBits_lt v hv) (and_lt18 _ _ (and_lt18 _ _ ha))
  · exact ha
set_option maxRecDepth 100000 in
/-- What is read of the modules with two copies. -/
theorem copies_read (v a b : Nat) (g : Nat) (bs : List Nat) (w : World) (h7 : 7 ≤ v) (h40 : v ≤ 40) (ha : a < 262144) (hb : b < 262144) (hl : bs.length = 17 + 4 * v) (hm : MkR w g (17 + 4 * v) (17 + 4 * v) bs (verK (17 + 4 * v) a b (patB v 1 0) 18)) :
    Calls Try.prog 20 #[.slice (some ⟨g, 0, none⟩) (17 + 4 * v) (17 + 4 * v)] w fun e w' => Below w.heap.size w w' ∧
      (((dV a v ≤ 3 ∨ dV b v ≤ 3) ∧ e = .returned (.tuple #[.int .i64 v, .int .i64 1, .int .i64 0, .bool true])) ∨
       (¬ (dV a v ≤ 3 ∨ dV b v ≤ 3) ∧ e = .returned (.tuple #[.int .i64 0, .int .i64 0, .int .i64 0, .bool false]))) := by
  have h := qrRead_hi (17 + 4 * v) v a b 8 (verK (17 + 4 * v) a b (patB v 1 0) 18) _ w (hm.rowsT hl ⟨by omega, by omega⟩) rfl h7 h40 (by decide) ha hb
    (fun k hk => by
      rw [verK_at _ _ _ _ (by omega) _ _ 18 (Nat.le_refl _), if_pos (by omega)]
      congr 2; omega)
    (fun k hk => by
      have h9 : ¬ (17 + 4 * v ≤ k / 3 + 11 ∧ k / 3 + 8 < 17 + 4 * v ∧ (17 + 4 * v - 11 + k % 3) * 3 + (k / 3 - (17 + 4 * v - 11)) < 18) := by omega
      rw [verK_at _ _ _ _ (by omega) _ _ 18 (Nat.le_refl _), if_neg h9, if_pos (by omega)]
      congr 2; omega)
    (fun c r k hc hr hk => by
      have hfm : ¬ (17 + 4 * v ≤ c + 11 ∧ c + 8 < 17 + 4 * v ∧ r * 3 + (c - (17 + 4 * v - 11)) < 18) ∧ ¬ (17 + 4 * v ≤ r + 11 ∧ r + 8 < 17 + 4 * v ∧ c * 3 + (r - (17 + 4 * v - 11)) < 18) := by
        unfold fmtI at hk
        split at hk <;> (try split at hk) <;> (try split at hk) <;> (try split at hk) <;> (try split at hk) <;> (try split at hk) <;> (try split at hk) <;> omega
      rw [verK_at _ _ _ _ (by omega) _ _ 18 (Nat.le_refl _), if_neg hfm.1, if_neg hfm.2]
      have hgv : givenB v (17 + 4 * v) (cenOf v) r c = true := decide_eq_true (by
        unfold givenP
        unfold fmtI at hk
        split at hk <;> (try split at hk) <;> (try split at hk) <;> (try split at hk) <;> (try split at hk) <;> (try split at hk) <;> (try split at hk) <;> omega)
      unfold patB
      rw [hgv, Bool.true_and]
      unfold pattnB
      rw [if_pos (by rw [hk]; omega), hk])
  exact h
theorem copyN_no (v a : Nat) : copyN v a false = a := rfl
set_option maxRecDepth 100000 in
set_option maxHeartbeats 4000000 in
theorem copies_walk (vN rN bN hN : Nat) (W : World) (h1 : vN < 256) (h2 : rN < 4294967296) (h3 : bN < 4294967296) :
    Calls Try.prog 4 #[.int .u8 vN, .int .u32 rN, .int .u32 bN, .int .u8 hN] W fun e w' => e = .returned (.bool true) ∧ Below W.heap.size W w' := by
  obtain ⟨v, hv⟩ : ∃ v, v = 7 + vN % 34 := ⟨_, rfl⟩
  have hv7 : 7 ≤ v := by omega
  have hv40 : v ≤ 40 := by omega
  have t1 : Int.tmod (vN : Int) 34 = ((vN % 34 : Nat) : Int) := by rw [Int.tmod_eq_emod_of_nonneg (by omega)]; simp
  have t2 : (7 : Int) + ((vN % 34 : Nat) : Int) = (v : Int) := by omega
  have t3 : (vN : Int) % 34 = ((vN % 34 : Nat) : Int) := by omega
  generalize vN % 34 = vm at *
  clear hv
  have u1 : bits .and .u32 (rN : Int) 262143 = ((rN % 262144 : Nat) : Int) := by
    have h := u32_and rN 262143 h2 (by decide)
    rw [show rN &&& 262143 = rN % 262144 from Nat.and_two_pow_sub_one_eq_mod rN 18] at h
    exact h
  have u2 : bits .and .u32 (bN : Int) 262143 = ((bN % 262144 : Nat) : Int) := by
    have h := u32_and bN 262143 h3 (by decide)
    rw [show bN &&& 262143 = bN % 262144 from Nat.and_two_pow_sub_one_eq_mod bN 18] at h
    exact h
  have ha : rN % 262144 < 262144 := Nat.mod_lt _ (by decide)
  have hb : bN % 262144 < 262144 := Nat.mod_lt _ (by decide)
  generalize rN % 262144 = a at *
  generalize bN % 262144 = b at *
  obtain ⟨hA, k1⟩ : ∃ x : Bool, (bits .and .u8 (hN : Int) 1 == 1) = x := ⟨_, rfl⟩
  obtain ⟨hB, k2⟩ : ∃ x : Bool, (bits .and .u8 (hN : Int) 2 == 2) = x := ⟨_, rfl⟩
  cases hA
  · cases hB
    · go_enter Try.func4, Try.ntmps4
      go_wp2_with fail
      clear k1 k2 t1 t2 t3 u1 u2
      -- the two copies
      refine (patterns_any v 1 0 W (by omega) hv40 (by omega) (by omega)).mono ?_
      rintro e w1 ⟨g, bs, rfl, hl, hm, hg, hb1⟩
      have hvs := versions_any g (17 + 4 * v) a b bs _ w1 hm hl (by omega) (by omega) (by assumption) (by assumption)
      have HB1 := Lib.hid hb1
      have HL := Lib.hid hl
      have HG := Lib.hid hg
      clear hm hb1 hl hg
      go_wp2_with fail
      refine hvs.mono ?_
      rintro e w2 ⟨rfl, hm2, hb2⟩
      have hcr := copies_read v a b g bs w2 hv7 hv40 (by assumption) (by assumption) HL.out hm2
      have HB2 := Lib.hid (HB1.out.trans (hb2.mono HG.out))
      clear hvs hm2 hb2
      go_wp2_with fail
      refine hcr.mono ?_
      rintro e w3 ⟨hb3, hor⟩
      have HB3 := Lib.hid (bup HB2.out hb3)
      have hta := fun w' => tells_any a v w' (by assumption) hv40
      have htb := fun w' => tells_any b v w' (by assumption) hv40
      clear hb3 hcr
      rcases hor with ⟨hnear, rfl⟩ | ⟨hno, rfl⟩
      · by_cases hna : dV a v ≤ 3
        · rw [decide_eq_true hna] at hta
          clear hnear hna htb
          go_wp2_with fail
          refine (hta _).mono ?_
          rintro e w3 ⟨rfl, rfl⟩
          go_wp2_with fail
          go_ret
          exact ⟨rfl, HB3.out⟩
        · have hnb : dV b v ≤ 3 := by rcases hnear with h | h; exact absurd h hna; exact h
          rw [decide_eq_false hna] at hta
          rw [decide_eq_true hnb] at htb
          clear hnear hna hnb
          go_wp2_with fail
          refine (hta _).mono ?_
          rintro e w3 ⟨rfl, rfl⟩
          go_wp2_with fail
          refine (htb _).mono ?_
          rintro e w3 ⟨rfl, rfl⟩
          go_wp2_with fail
          go_ret
          exact ⟨rfl, HB3.out⟩
      · rw [decide_eq_false (fun h => hno (.inl h))] at hta
        rw [decide_eq_false (fun h => hno (.inr h))] at htb
        clear hno
        go_wp2_with fail
        refine (hta _).mono ?_
        rintro e w3 ⟨rfl, rfl⟩
        go_wp2_with fail
        refine (htb _).mono ?_
        rintro e w3 ⟨rfl, rfl⟩
        go_wp2_with fail
        go_ret
        exact ⟨rfl, HB3.out⟩
    · go_enter Try.func4, Try.ntmps4
      -- a copy that is made of the right one: its bits, the name of the new number, its fact, its bound, which
      obtain ⟨y, hy0⟩ : ∃ x, x = copyN v b true := ⟨_, rfl⟩
      have hy : y < 262144 := by rw [hy0]; exact copyN_lt v b true hv40 (by assumption)
      have and1 : bits .and .i64 (b : Int) ((b : Int) / 32) = ((b &&& b / 32 : Nat) : Int) := i64_and b (b / 32) (by omega) (by omega)
      have and2 : bits .and .i64 ((b &&& b / 32 : Nat) : Int) ((b : Int) / 512) = ((b &&& b / 32 &&& b / 512 : Nat) : Int) := i64_and (b &&& b / 32) (b / 512) (Nat.lt_trans (and_lt18 _ _ (by assumption)) (by decide)) (by omega)
      have xo : bits .xor .i64 ((verBits v : Nat) : Int) ((b &&& b / 32 &&& b / 512 : Nat) : Int) = (y : Int) := by
        rw [hy0]
        exact i64_xor (verBits v) _ (by have := verBits_lt v hv40; omega) (Nat.lt_trans (and_lt18 _ _ (and_lt18 _ _ (by assumption))) (by decide))
      have hvb := versionBits_any v W hv40
      generalize b &&& b / 32 &&& b / 512 = A2 at *
      generalize b &&& b / 32 = A1 at *
      generalize verBits v = V at *
      have HY := Lib.hid hy0
      clear hy0
      go_wp2_with fail
      refine hvb.mono ?_
      rintro e W ⟨rfl, rfl⟩
      clear hvb
      go_wp2_with fail
      clear and1 and2 xo
      clear k1 k2 t1 t2 t3 u1 u2
      -- the two copies
      refine (patterns_any v 1 0 W (by omega) hv40 (by omega) (by omega)).mono ?_
      rintro e w1 ⟨g, bs, rfl, hl, hm, hg, hb1⟩
      have hvs := versions_any g (17 + 4 * v) a y bs _ w1 hm hl (by omega) (by omega) (by assumption) (by assumption)
      have HB1 := Lib.hid hb1
      have HL := Lib.hid hl
      have HG := Lib.hid hg
      clear hm hb1 hl hg
      go_wp2_with fail
      refine hvs.mono ?_
      rintro e w2 ⟨rfl, hm2, hb2⟩
      have hcr := copies_read v a y g bs w2 hv7 hv40 (by assumption) (by assumption) HL.out hm2
      have HB2 := Lib.hid (HB1.out.trans (hb2.mono HG.out))
      clear hvs hm2 hb2
      go_wp2_with fail
      refine hcr.mono ?_
      rintro e w3 ⟨hb3, hor⟩
      have HB3 := Lib.hid (bup HB2.out hb3)
      have hta := fun w' => tells_any a v w' (by assumption) hv40
      have htb := fun w' => tells_any y v w' (by assumption) hv40
      clear hb3 hcr
      rcases hor with ⟨hnear, rfl⟩ | ⟨hno, rfl⟩
      · by_cases hna : dV a v ≤ 3
        · rw [decide_eq_true hna] at hta
          clear hnear hna htb
          go_wp2_with fail
          refine (hta _).mono ?_
          rintro e w3 ⟨rfl, rfl⟩
          go_wp2_with fail
          go_ret
          exact ⟨rfl, HB3.out⟩
        · have hnb : dV y v ≤ 3 := by rcases hnear with h | h; exact absurd h hna; exact h
          rw [decide_eq_false hna] at hta
          rw [decide_eq_true hnb] at htb
          clear hnear hna hnb
          go_wp2_with fail
          refine (hta _).mono ?_
          rintro e w3 ⟨rfl, rfl⟩
          go_wp2_with fail
          refine (htb _).mono ?_
          rintro e w3 ⟨rfl, rfl⟩
          go_wp2_with fail
          go_ret
          exact ⟨rfl, HB3.out⟩
      · rw [decide_eq_false (fun h => hno (.inl h))] at hta
        rw [decide_eq_false (fun h => hno (.inr h))] at htb
        clear hno
        go_wp2_with fail
        refine (hta _).mono ?_
        rintro e w3 ⟨rfl, rfl⟩
        go_wp2_with fail
        refine (htb _).mono ?_
        rintro e w3 ⟨rfl, rfl⟩
        go_wp2_with fail
        go_ret
        exact ⟨rfl, HB3.out⟩
  · cases hB
    · go_enter Try.func4, Try.ntmps4
      -- a copy that is made of the right one: its bits, the name of the new number, its fact, its bound, which
      obtain ⟨x, hx0⟩ : ∃ x, x = copyN v a true := ⟨_, rfl⟩
      have hx : x < 262144 := by rw [hx0]; exact copyN_lt v a true hv40 (by assumption)
      have and1 : bits .and .i64 (a : Int) ((a : Int) / 32) = ((a &&& a / 32 : Nat) : Int) := i64_and a (a / 32) (by omega) (by omega)
      have and2 : bits .and .i64 ((a &&& a / 32 : Nat) : Int) ((a : Int) / 512) = ((a &&& a / 32 &&& a / 512 : Nat) : Int) := i64_and (a &&& a / 32) (a / 512) (Nat.lt_trans (and_lt18 _ _ (by assumption)) (by decide)) (by omega)
      have xo : bits .xor .i64 ((verBits v : Nat) : Int) ((a &&& a / 32 &&& a / 512 : Nat) : Int) = (x : Int) := by
        rw [hx0]
        exact i64_xor (verBits v) _ (by have := verBits_lt v hv40; omega) (Nat.lt_trans (and_lt18 _ _ (and_lt18 _ _ (by assumption))) (by decide))
      have hvb := versionBits_any v W hv40
      generalize a &&& a / 32 &&& a / 512 = A2 at *
      generalize a &&& a / 32 = A1 at *
      generalize verBits v = V at *
      have HX := Lib.hid hx0
      clear hx0
      go_wp2_with fail
      refine hvb.mono ?_
      rintro e W ⟨rfl, rfl⟩
      clear hvb
      go_wp2_with fail
      clear and1 and2 xo
      clear k1 k2 t1 t2 t3 u1 u2
      -- the two copies
      refine (patterns_any v 1 0 W (by omega) hv40 (by omega) (by omega)).mono ?_
      rintro e w1 ⟨g, bs, rfl, hl, hm, hg, hb1⟩
      have hvs := versions_any g (17 + 4 * v) x b bs _ w1 hm hl (by omega) (by omega) (by assumption) (by assumption)
      have HB1 := Lib.hid hb1
      have HL := Lib.hid hl
      have HG := Lib.hid hg
      clear hm hb1 hl hg
      go_wp2_with fail
      refine hvs.mono ?_
      rintro e w2 ⟨rfl, hm2, hb2⟩
      have hcr := copies_read v x b g bs w2 hv7 hv40 (by assumption) (by assumption) HL.out hm2
      have HB2 := Lib.hid (HB1.out.trans (hb2.mono HG.out))
      clear hvs hm2 hb2
      go_wp2_with fail
      refine hcr.mono ?_
      rintro e w3 ⟨hb3, hor⟩
      have HB3 := Lib.hid (bup HB2.out hb3)
      have hta := fun w' => tells_any x v w' (by assumption) hv40
      have htb := fun w' => tells_any b v w' (by assumption) hv40
      clear hb3 hcr
      rcases hor with ⟨hnear, rfl⟩ | ⟨hno, rfl⟩
      · by_cases hna : dV x v ≤ 3
        · rw [decide_eq_true hna] at hta
          clear hnear hna htb
          go_wp2_with fail
          refine (hta _).mono ?_
          rintro e w3 ⟨rfl, rfl⟩
          go_wp2_with fail
          go_ret
          exact ⟨rfl, HB3.out⟩
        · have hnb : dV b v ≤ 3 := by rcases hnear with h | h; exact absurd h hna; exact h
          rw [decide_eq_false hna] at hta
          rw [decide_eq_true hnb] at htb
          clear hnear hna hnb
          go_wp2_with fail
          refine (hta _).mono ?_
          rintro e w3 ⟨rfl, rfl⟩
          go_wp2_with fail
          refine (htb _).mono ?_
          rintro e w3 ⟨rfl, rfl⟩
          go_wp2_with fail
          go_ret
          exact ⟨rfl, HB3.out⟩
      · rw [decide_eq_false (fun h => hno (.inl h))] at hta
        rw [decide_eq_false (fun h => hno (.inr h))] at htb
        clear hno
        go_wp2_with fail
        refine (hta _).mono ?_
        rintro e w3 ⟨rfl, rfl⟩
        go_wp2_with fail
        refine (htb _).mono ?_
        rintro e w3 ⟨rfl, rfl⟩
        go_wp2_with fail
        go_ret
        exact ⟨rfl, HB3.out⟩
    · go_enter Try.func4, Try.ntmps4
      -- a copy that is made of the right one: its bits, the name of the new number, its fact, its bound, which
      obtain ⟨x, hx0⟩ : ∃ x, x = copyN v a true := ⟨_, rfl⟩
      have hx : x < 262144 := by rw [hx0]; exact copyN_lt v a true hv40 (by assumption)
      have and1 : bits .and .i64 (a : Int) ((a : Int) / 32) = ((a &&& a / 32 : Nat) : Int) := i64_and a (a / 32) (by omega) (by omega)
      have and2 : bits .and .i64 ((a &&& a / 32 : Nat) : Int) ((a : Int) / 512) = ((a &&& a / 32 &&& a / 512 : Nat) : Int) := i64_and (a &&& a / 32) (a / 512) (Nat.lt_trans (and_lt18 _ _ (by assumption)) (by decide)) (by omega)
      have xo : bits .xor .i64 ((verBits v : Nat) : Int) ((a &&& a / 32 &&& a / 512 : Nat) : Int) = (x : Int) := by
        rw [hx0]
        exact i64_xor (verBits v) _ (by have := verBits_lt v hv40; omega) (Nat.lt_trans (and_lt18 _ _ (and_lt18 _ _ (by assumption))) (by decide))
      have hvb := versionBits_any v W hv40
      generalize a &&& a / 32 &&& a / 512 = A2 at *
      generalize a &&& a / 32 = A1 at *
      generalize verBits v = V at *
      have HX := Lib.hid hx0
      clear hx0
      go_wp2_with fail
      refine hvb.mono ?_
      rintro e W ⟨rfl, rfl⟩
      clear hvb
      go_wp2_with fail
      clear and1 and2 xo
      -- a copy that is made of the right one: its bits, the name of the new number, its fact, its bound, which
      obtain ⟨y, hy0⟩ : ∃ x, x = copyN v b true := ⟨_, rfl⟩
      have hy : y < 262144 := by rw [hy0]; exact copyN_lt v b true hv40 (by assumption)
      have and1 : bits .and .i64 (b : Int) ((b : Int) / 32) = ((b &&& b / 32 : Nat) : Int) := i64_and b (b / 32) (by omega) (by omega)
      have and2 : bits .and .i64 ((b &&& b / 32 : Nat) : Int) ((b : Int) / 512) = ((b &&& b / 32 &&& b / 512 : Nat) : Int) := i64_and (b &&& b / 32) (b / 512) (Nat.lt_trans (and_lt18 _ _ (by assumption)) (by decide)) (by omega)
      have xo : bits .xor .i64 ((verBits v : Nat) : Int) ((b &&& b / 32 &&& b / 512 : Nat) : Int) = (y : Int) := by
        rw [hy0]
        exact i64_xor (verBits v) _ (by have := verBits_lt v hv40; omega) (Nat.lt_trans (and_lt18 _ _ (and_lt18 _ _ (by assumption))) (by decide))
      have hvb := versionBits_any v W hv40
      generalize b &&& b / 32 &&& b / 512 = A2 at *
      generalize b &&& b / 32 = A1 at *
      generalize verBits v = V at *
      have HY := Lib.hid hy0
      clear hy0
      go_wp2_with fail
      refine hvb.mono ?_
      rintro e W ⟨rfl, rfl⟩
      clear hvb
      go_wp2_with fail
      clear and1 and2 xo
      clear k1 k2 t1 t2 t3 u1 u2
      -- the two copies
      refine (patterns_any v 1 0 W (by omega) hv40 (by omega) (by omega)).mono ?_
      rintro e w1 ⟨g, bs, rfl, hl, hm, hg, hb1⟩
      have hvs := versions_any g (17 + 4 * v) x y bs _ w1 hm hl (by omega) (by omega) (by assumption) (by assumption)
      have HB1 := Lib.hid hb1
      have HL := Lib.hid hl
      have HG := Lib.hid hg
      clear hm hb1 hl hg
      go_wp2_with fail
      refine hvs.mono ?_
      rintro e w2 ⟨rfl, hm2, hb2⟩
      have hcr := copies_read v x y g bs w2 hv7 hv40 (by assumption) (by assumption) HL.out hm2
      have HB2 := Lib.hid (HB1.out.trans (hb2.mono HG.out))
      clear hvs hm2 hb2
      go_wp2_with fail
      refine hcr.mono ?_
      rintro e w3 ⟨hb3, hor⟩
      have HB3 := Lib.hid (bup HB2.out hb3)
      have hta := fun w' => tells_any x v w' (by assumption) hv40
      have htb := fun w' => tells_any y v w' (by assumption) hv40
      clear hb3 hcr
      rcases hor with ⟨hnear, rfl⟩ | ⟨hno, rfl⟩
      · by_cases hna : dV x v ≤ 3
        · rw [decide_eq_true hna] at hta
          clear hnear hna htb
          go_wp2_with fail
          refine (hta _).mono ?_
          rintro e w3 ⟨rfl, rfl⟩
          go_wp2_with fail
          go_ret
          exact ⟨rfl, HB3.out⟩
        · have hnb : dV y v ≤ 3 := by rcases hnear with h | h; exact absurd h hna; exact h
          rw [decide_eq_false hna] at hta
          rw [decide_eq_true hnb] at htb
          clear hnear hna hnb
          go_wp2_with fail
          refine (hta _).mono ?_
          rintro e w3 ⟨rfl, rfl⟩
          go_wp2_with fail
          refine (htb _).mono ?_
          rintro e w3 ⟨rfl, rfl⟩
          go_wp2_with fail
          go_ret
          exact ⟨rfl, HB3.out⟩
      · rw [decide_eq_false (fun h => hno (.inl h))] at hta
        rw [decide_eq_false (fun h => hno (.inr h))] at htb
        clear hno
        go_wp2_with fail
        refine (hta _).mono ?_
        rintro e w3 ⟨rfl, rfl⟩
        go_wp2_with fail
        refine (htb _).mono ?_
        rintro e w3 ⟨rfl, rfl⟩
        go_wp2_with fail
        go_ret
        exact ⟨rfl, HB3.out⟩
end Go.Proofs.Ytfgajbhgkdkmbaa
