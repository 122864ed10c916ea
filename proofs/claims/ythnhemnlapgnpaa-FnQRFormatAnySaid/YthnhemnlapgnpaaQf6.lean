/-
  THE WALK OF THE LAW: the nearer copy tells.
-/
import Derived.Test.YthnhemnlapgnpaaQf5
namespace Go.Proofs.Ythnhemnlapgnpaa
open Go.RowKit

attribute [local irreducible] nearK ddK
set_option maxRecDepth 100000 in
set_option maxHeartbeats 4000000 in
theorem formatAny_walk (a b : Nat) (w : World) (ha : a < 65536) (hb : b < 65536) : Calls Try.prog 4 #[.int .u16 a, .int .u16 b] w fun e w' => e = .returned (.bool true) ∧ Below w.heap.size w w' := by
  have ea : bits .and .i64 (a : Int) 32767 = ((a % 32768 : Nat) : Int) := by
    have h := i64_and a 32767 (by omega) (by decide)
    rw [show a &&& 32767 = a % 32768 from Nat.and_two_pow_sub_one_eq_mod a 15] at h
    exact h
  have eb : bits .and .i64 (b : Int) 32767 = ((b % 32768 : Nat) : Int) := by
    have h := i64_and b 32767 (by omega) (by decide)
    rw [show b &&& 32767 = b % 32768 from Nat.and_two_pow_sub_one_eq_mod b 15] at h
    exact h
  have hx : a % 32768 < 32768 := Nat.mod_lt _ (by decide)
  have hy : b % 32768 < 32768 := Nat.mod_lt _ (by decide)
  generalize a % 32768 = x at *
  generalize b % 32768 = y at *
  have ex : bits .xor .i64 (x : Int) 21522 = ((x ^^^ 21522 : Nat) : Int) := i64_xor x 21522 (by omega) (by decide)
  have ey : bits .xor .i64 (y : Int) 21522 = ((y ^^^ 21522 : Nat) : Int) := i64_xor y 21522 (by omega) (by decide)
  have hx2 : x ^^^ 21522 < 32768 := Nat.xor_lt_two_pow (n := 15) hx (by decide)
  have hy2 : y ^^^ 21522 < 32768 := Nat.xor_lt_two_pow (n := 15) hy (by decide)
  obtain ⟨m, i1, hm⟩ : ∃ m i1, nearK x 32 = (m, i1) := ⟨(nearK x 32).1, (nearK x 32).2, rfl⟩
  obtain ⟨n, i2, hn⟩ : ∃ n i2, nearK y 32 = (n, i2) := ⟨(nearK y 32).1, (nearK y 32).2, rfl⟩
  obtain ⟨p, i3, hp⟩ : ∃ p i3, nearK (x ^^^ 21522) 32 = (p, i3) := ⟨(nearK (x ^^^ 21522) 32).1, (nearK (x ^^^ 21522) 32).2, rfl⟩
  obtain ⟨q, i4, hq⟩ : ∃ q i4, nearK (y ^^^ 21522) 32 = (q, i4) := ⟨(nearK (y ^^^ 21522) 32).1, (nearK (y ^^^ 21522) 32).2, rfl⟩
  have hX := fun w' => near_any x w' hx
  have hY := fun w' => near_any y w' hy
  have hX2 := fun w' => near_any (x ^^^ 21522) w' hx2
  have hY2 := fun w' => near_any (y ^^^ 21522) w' hy2
  have i1l : i1 < 32 := by have := nearK_idx x 32 (Nat.le_refl _); rw [hm] at this; exact this
  have i2l : i2 < 32 := by have := nearK_idx y 32 (Nat.le_refl _); rw [hn] at this; exact this
  have ml : m ≤ 16 := by have := (nearK_lt x 32).2; rw [hm] at this; exact this
  have nl : n ≤ 16 := by have := (nearK_lt y 32).2; rw [hn] at this; exact this
  have pl : p ≤ 16 := by have := (nearK_lt (x ^^^ 21522) 32).2; rw [hp] at this; exact this
  have ql : q ≤ 16 := by have := (nearK_lt (y ^^^ 21522) 32).2; rw [hq] at this; exact this
  rw [hm] at hX; rw [hn] at hY; rw [hp] at hX2; rw [hq] at hY2
  have hF := fun w' => format_any x y w' hx hy
  have h1 : m ≤ 3 → (m < n ∨ (m = n ∧ i1 = i2)) → ∀ r, Dec2 x y r → r = some i1 := fun h3 h4 r hr => by
    rcases hr with ⟨k, hk, rfl⟩ | ⟨h5, _⟩
    · exact dec_first hx hy hm hn hk h3 h4
    · have := dec_first hx hy hm hn h5 h3 h4; cases this
  have h2 : n ≤ 3 → n < m → ∀ r, Dec2 x y r → r = some i2 := fun h3 h4 r hr => by
    rcases hr with ⟨k, hk, rfl⟩ | ⟨h5, _⟩
    · exact dec_second hx hy hm hn hk h3 h4
    · have := dec_second hx hy hm hn h5 h3 h4; cases this
  have h3 : 3 < m → 3 < n → 3 < p → 3 < q → ∀ k, ¬ Dec2 x y (some k) := fun h3 h4 h5 h6 k hr => by
    rcases hr with ⟨k', hk, _⟩ | ⟨_, hk⟩
    · have := dec_none hx hy hm hn hk h3 h4; cases this
    · have := dec_none hx2 hy2 hp hq hk h5 h6; cases this
  have HX := Lib.hid hX; have HY := Lib.hid hY; have HX2 := Lib.hid hX2; have HY2 := Lib.hid hY2; have HF := Lib.hid hF
  have H1 := Lib.hid h1; have H2 := Lib.hid h2; have H3 := Lib.hid h3
  clear hX hY hX2 hY2 hF h1 h2 h3 hm hn hp hq
  simp only at HX HY HX2 HY2
  generalize x ^^^ 21522 = x2 at *
  generalize y ^^^ 21522 = y2 at *
  by_cases hmA : m ≤ 3 ∧ m < n
  · obtain ⟨hm3, hmn⟩ := hmA
    have HC := Lib.hid (H1.out hm3 (.inl hmn))
    go_enter Try.func4, Try.ntmps4
    go_wp2_with fail
    refine (HX.out _).mono ?_
    rintro e w ⟨rfl, rfl⟩
    go_wp2_with fail
    refine (HY.out _).mono ?_
    rintro e w ⟨rfl, rfl⟩
    go_wp2_with fail
    refine (HF.out _).mono ?_
    rintro e w1 ⟨hb, hr⟩
    have HB := Lib.hid hb; clear hb
    rcases hr with ⟨hd, rfl⟩ | ⟨k, hd, hk, rfl⟩
    · exfalso
      have := HC.out none hd
      cases this
    · have hk2 := HC.out (some k) hd
      injection hk2 with hk2
      subst hk2
      clear hd
      go_wp2
      all_goals
        go_ret
        exact ⟨rfl, HB.out⟩
  · by_cases hmB : m ≤ 3 ∧ m = n
    · obtain ⟨hm3, rfl⟩ := hmB
      by_cases hii : i1 = i2
      · have HC := Lib.hid (H1.out hm3 (.inr ⟨rfl, hii⟩))
        subst hii
        clear hmA H1 H2
        go_enter Try.func4, Try.ntmps4
        go_wp2_with fail
        refine (HX.out _).mono ?_
        rintro e w ⟨rfl, rfl⟩
        go_wp2_with fail
        refine (HY.out _).mono ?_
        rintro e w ⟨rfl, rfl⟩
        go_wp2_with fail
        refine (HF.out _).mono ?_
        rintro e w1 ⟨hb, hr⟩
        have HB := Lib.hid hb; clear hb
        rcases hr with ⟨hd, rfl⟩ | ⟨k, hd, hk, rfl⟩
        · exfalso
          have := HC.out none hd
          cases this
        · have hk2 := HC.out (some k) hd
          injection hk2 with hk2
          subst hk2
          clear hd
          go_wp2
          all_goals
            go_ret
            exact ⟨rfl, HB.out⟩
      · clear hmA H1 H2
        by_cases h8 : i1 / 8 = i2 / 8
        · have hq8 : (((i1 % 8 : Nat) : Int) == ((i2 % 8 : Nat) : Int)) = false := by rw [beq_eq_false_iff_ne]; omega
          have hq7 : (((i1 / 8 : Nat) : Int) == ((i2 / 8 : Nat) : Int)) = true := by rw [beq_iff_eq]; omega
          generalize i1 / 8 = u1 at *
          generalize i2 / 8 = u2 at *
          generalize i1 % 8 = u3 at *
          generalize i2 % 8 = u4 at *
          clear h8
          go_enter Try.func4, Try.ntmps4
          go_wp2_with fail
          refine (HX.out _).mono ?_
          rintro e w ⟨rfl, rfl⟩
          go_wp2_with fail
          refine (HY.out _).mono ?_
          rintro e w ⟨rfl, rfl⟩
          go_wp2_with fail
          refine (HF.out _).mono ?_
          rintro e w1 ⟨hb, hr⟩
          have HB := Lib.hid hb; clear hb
          rcases hr with ⟨hd, rfl⟩ | ⟨k, hd, hk, rfl⟩
          · clear hd
            go_wp2
            go_ret
            exact ⟨rfl, HB.out⟩
          · clear hd
            go_wp2
            go_ret
            exact ⟨rfl, HB.out⟩
        · have hq7 : (((i1 / 8 : Nat) : Int) == ((i2 / 8 : Nat) : Int)) = false := by rw [beq_eq_false_iff_ne]; omega
          generalize i1 / 8 = u1 at *
          generalize i2 / 8 = u2 at *
          clear h8
          go_enter Try.func4, Try.ntmps4
          go_wp2_with fail
          refine (HX.out _).mono ?_
          rintro e w ⟨rfl, rfl⟩
          go_wp2_with fail
          refine (HY.out _).mono ?_
          rintro e w ⟨rfl, rfl⟩
          go_wp2_with fail
          refine (HF.out _).mono ?_
          rintro e w1 ⟨hb, hr⟩
          have HB := Lib.hid hb; clear hb
          rcases hr with ⟨hd, rfl⟩ | ⟨k, hd, hk, rfl⟩
          · clear hd
            go_wp2
            go_ret
            exact ⟨rfl, HB.out⟩
          · clear hd
            go_wp2
            go_ret
            exact ⟨rfl, HB.out⟩
    · by_cases hmC : n ≤ 3 ∧ n < m
      · obtain ⟨hn3, hnm⟩ := hmC
        have HC := Lib.hid (H2.out hn3 hnm)
        have hmn : ((m : Int) == (n : Int)) = false := by rw [beq_eq_false_iff_ne]; omega
        clear hmA hmB
        go_enter Try.func4, Try.ntmps4
        go_wp2_with fail
        refine (HX.out _).mono ?_
        rintro e w ⟨rfl, rfl⟩
        go_wp2_with fail
        refine (HY.out _).mono ?_
        rintro e w ⟨rfl, rfl⟩
        go_wp2_with fail
        refine (HF.out _).mono ?_
        rintro e w1 ⟨hb, hr⟩
        have HB := Lib.hid hb; clear hb
        rcases hr with ⟨hd, rfl⟩ | ⟨k, hd, hk, rfl⟩
        · exfalso
          have := HC.out none hd
          cases this
        · have hk2 := HC.out (some k) hd
          injection hk2 with hk2
          subst hk2
          clear hd
          go_wp2
          all_goals
            go_ret
            exact ⟨rfl, HB.out⟩
      · have hm4 : 3 < m := by omega
        have hn4 : 3 < n := by omega
        clear hmA hmB hmC
        by_cases hp3 : p ≤ 3
        · go_enter Try.func4, Try.ntmps4
          go_wp2_with fail
          refine (HX.out _).mono ?_
          rintro e w ⟨rfl, rfl⟩
          go_wp2_with fail
          refine (HY.out _).mono ?_
          rintro e w ⟨rfl, rfl⟩
          go_wp2_with fail
          refine (HF.out _).mono ?_
          rintro e w1 ⟨hb, hr⟩
          have HB := Lib.hid hb; clear hb
          rcases hr with ⟨hd, rfl⟩ | ⟨k, hd, hk, rfl⟩
          · clear hd
            go_wp2_with fail
            refine (HX2.out _).mono ?_
            rintro e w1 ⟨rfl, rfl⟩
            go_wp2_with fail
            refine (HY2.out _).mono ?_
            rintro e w1 ⟨rfl, rfl⟩
            go_wp2
            go_ret
            exact ⟨rfl, HB.out⟩
          · clear hd
            go_wp2_with fail
            refine (HX2.out _).mono ?_
            rintro e w1 ⟨rfl, rfl⟩
            go_wp2_with fail
            refine (HY2.out _).mono ?_
            rintro e w1 ⟨rfl, rfl⟩
            go_wp2
            go_ret
            exact ⟨rfl, HB.out⟩
        · by_cases hq3 : q ≤ 3
          · go_enter Try.func4, Try.ntmps4
            go_wp2_with fail
            refine (HX.out _).mono ?_
            rintro e w ⟨rfl, rfl⟩
            go_wp2_with fail
            refine (HY.out _).mono ?_
            rintro e w ⟨rfl, rfl⟩
            go_wp2_with fail
            refine (HF.out _).mono ?_
            rintro e w1 ⟨hb, hr⟩
            have HB := Lib.hid hb; clear hb
            rcases hr with ⟨hd, rfl⟩ | ⟨k, hd, hk, rfl⟩
            · clear hd
              go_wp2_with fail
              refine (HX2.out _).mono ?_
              rintro e w1 ⟨rfl, rfl⟩
              go_wp2_with fail
              refine (HY2.out _).mono ?_
              rintro e w1 ⟨rfl, rfl⟩
              go_wp2
              go_ret
              exact ⟨rfl, HB.out⟩
            · clear hd
              go_wp2_with fail
              refine (HX2.out _).mono ?_
              rintro e w1 ⟨rfl, rfl⟩
              go_wp2_with fail
              refine (HY2.out _).mono ?_
              rintro e w1 ⟨rfl, rfl⟩
              go_wp2
              go_ret
              exact ⟨rfl, HB.out⟩
          · have HC := Lib.hid (H3.out hm4 hn4 (by omega) (by omega))
            go_enter Try.func4, Try.ntmps4
            go_wp2_with fail
            refine (HX.out _).mono ?_
            rintro e w ⟨rfl, rfl⟩
            go_wp2_with fail
            refine (HY.out _).mono ?_
            rintro e w ⟨rfl, rfl⟩
            go_wp2_with fail
            refine (HF.out _).mono ?_
            rintro e w1 ⟨hb, hr⟩
            have HB := Lib.hid hb; clear hb
            rcases hr with ⟨hd, rfl⟩ | ⟨k, hd, hk, rfl⟩
            · clear hd
              go_wp2_with fail
              refine (HX2.out _).mono ?_
              rintro e w1 ⟨rfl, rfl⟩
              go_wp2_with fail
              refine (HY2.out _).mono ?_
              rintro e w1 ⟨rfl, rfl⟩
              go_wp2
              go_ret
              exact ⟨rfl, HB.out⟩
            · exact absurd hd (HC.out k)
end Go.Proofs.Ythnhemnlapgnpaa
