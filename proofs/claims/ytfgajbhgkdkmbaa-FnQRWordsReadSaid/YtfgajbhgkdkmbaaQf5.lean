/-
  PLAIN: the nearer copy tells. WALKS: FormatInformation_DecodeFormatInformation, impl.QRFormat; the law.
-/
import Derived.Test.YtfgajbhgkdkmbaaQf4
namespace Go.Proofs.Ytfgajbhgkdkmbaa
open Go.RowKit

theorem pc_pos (z : Nat) (hz : z < 32768) (h : pc z = 0) : z = 0 := by
  rcases Nat.eq_zero_or_pos z with h0 | h0
  · exact h0
  · have := pc_step z hz (by omega); omega
theorem dF_zero (x k : Nat) (hx : x < 32768) (hk : k < 32) : dF x k = 0 ↔ fmtT k = x := by
  unfold dF
  constructor
  · intro h
    have h1 := pc_pos _ (Nat.xor_lt_two_pow (n := 15) hx (fmtT_lt k hk)) h
    have h2 : (x ^^^ fmtT k) ^^^ fmtT k = 0 ^^^ fmtT k := by rw [h1]
    rw [Nat.xor_assoc, Nat.xor_self, Nat.xor_zero, Nat.zero_xor] at h2
    exact h2.symm
  · intro h
    rw [h, Nat.xor_self]; rfl
theorem near_spec (x : Nat) : ∀ k, (∀ j, j < k → (nearK x k).1 ≤ dF x j) ∧ ((nearK x k).1 = 16 ∨ ((nearK x k).2 < k ∧ (nearK x k).1 = dF x (nearK x k).2 ∧ ∀ j, j < (nearK x k).2 → (nearK x k).1 < dF x j))
  | 0 => ⟨fun j hj => absurd hj (Nat.not_lt_zero _), .inl rfl⟩
  | k + 1 => by
    obtain ⟨h1, h2⟩ := near_spec x k
    unfold nearK
    split
    · rename_i hlt
      refine ⟨fun j hj => ?_, .inr ⟨by omega, rfl, fun j hj => ?_⟩⟩
      · rcases Nat.lt_or_ge j k with h | h
        · have := h1 j h; show dF x k ≤ _; omega
        · rw [show j = k by omega]; exact Nat.le_refl _
      · have := h1 j hj; show dF x k < _; omega
    · rename_i hlt
      refine ⟨fun j hj => ?_, ?_⟩
      · rcases Nat.lt_or_ge j k with h | h
        · exact h1 j h
        · rw [show j = k by omega]; omega
      · rcases h2 with h2 | ⟨h3, h4, h5⟩
        · exact .inl h2
        · exact .inr ⟨by omega, h4, h5⟩
theorem dd1_spec (x y k : Nat) (s : Nat × Nat) (h1 : ∀ j, j < k → s.1 ≤ dF x j ∧ s.1 ≤ dF y j) (h2 : s.1 = 2147483647 ∨ (s.2 < k + 1 ∧ (s.1 = dF x s.2 ∨ s.1 = dF y s.2) ∧ ∀ j, j < s.2 → s.1 < dF x j ∧ s.1 < dF y j)) (z : Nat) (hz : z = x ∨ z = y) :
    (∀ j, j < k → (dd1 z k s).1 ≤ dF x j ∧ (dd1 z k s).1 ≤ dF y j) ∧ (dd1 z k s).1 ≤ dF z k ∧ (dd1 z k s).1 ≤ s.1 ∧
      ((dd1 z k s).1 = 2147483647 ∨ ((dd1 z k s).2 < k + 1 ∧ ((dd1 z k s).1 = dF x (dd1 z k s).2 ∨ (dd1 z k s).1 = dF y (dd1 z k s).2) ∧ ∀ j, j < (dd1 z k s).2 → (dd1 z k s).1 < dF x j ∧ (dd1 z k s).1 < dF y j)) := by
  unfold dd1
  split
  · rename_i hlt
    refine ⟨fun j hj => ?_, Nat.le_refl _, by show dF z k ≤ _; omega, .inr ⟨by show k < k + 1; omega, ?_, fun j hj => ?_⟩⟩
    · have := h1 j hj; show dF z k ≤ _ ∧ dF z k ≤ _; omega
    · rcases hz with rfl | rfl
      · exact .inl rfl
      · exact .inr rfl
    · have := h1 j hj; show dF z k < _ ∧ dF z k < _; omega
  · rename_i hlt
    exact ⟨h1, by omega, Nat.le_refl _, h2⟩
theorem dd_spec (x y : Nat) : ∀ k, (∀ j, j < k → (ddK x y k).1 ≤ dF x j ∧ (ddK x y k).1 ≤ dF y j) ∧ ((ddK x y k).1 = 2147483647 ∨ ((ddK x y k).2 < k ∧ ((ddK x y k).1 = dF x (ddK x y k).2 ∨ (ddK x y k).1 = dF y (ddK x y k).2) ∧ ∀ j, j < (ddK x y k).2 → (ddK x y k).1 < dF x j ∧ (ddK x y k).1 < dF y j))
  | 0 => ⟨fun j hj => absurd hj (Nat.not_lt_zero _), .inl rfl⟩
  | k + 1 => by
    obtain ⟨h1, h2⟩ := dd_spec x y k
    have h2' : (ddK x y k).1 = 2147483647 ∨ ((ddK x y k).2 < k + 1 ∧ ((ddK x y k).1 = dF x (ddK x y k).2 ∨ (ddK x y k).1 = dF y (ddK x y k).2) ∧ ∀ j, j < (ddK x y k).2 → (ddK x y k).1 < dF x j ∧ (ddK x y k).1 < dF y j) := by
      rcases h2 with h2 | ⟨h3, h4⟩
      · exact .inl h2
      · exact .inr ⟨by omega, h4⟩
    obtain ⟨a1, a2, a3, a4⟩ := dd1_spec x y k (ddK x y k) h1 h2' x (.inl rfl)
    unfold ddK
    split
    · rename_i hxy
      subst hxy
      refine ⟨fun j hj => ?_, a4⟩
      rcases Nat.lt_or_ge j k with h | h
      · exact a1 j h
      · rw [show j = k by omega]; exact ⟨a2, a2⟩
    · obtain ⟨b1, b2, b3, b4⟩ := dd1_spec x y k (dd1 x k (ddK x y k)) a1 a4 y (.inr rfl)
      refine ⟨fun j hj => ?_, b4⟩
      rcases Nat.lt_or_ge j k with h | h
      · exact b1 j h
      · rw [show j = k by omega]; exact ⟨by omega, b2⟩
section
variable {x y m n i1 i2 : Nat} {r : Option Nat}
theorem dec_first (hx : x < 32768) (hy : y < 32768) (hm : nearK x 32 = (m, i1)) (hn : nearK y 32 = (n, i2)) (hD : Dec x y r) (h3 : m ≤ 3) (h : m < n ∨ (m = n ∧ i1 = i2)) : r = some i1 := by
  have n1 := near_spec x 32
  have n2 := near_spec y 32
  rw [hm] at n1; rw [hn] at n2
  obtain ⟨a1, a2⟩ := n1
  obtain ⟨b1, b2⟩ := n2
  simp only at a1 a2 b1 b2
  obtain ⟨a3, a4, a5⟩ : i1 < 32 ∧ m = dF x i1 ∧ ∀ j, j < i1 → m < dF x j := by rcases a2 with h9 | h9; omega; exact h9
  rcases hD with ⟨k, rfl, hk, hex, hno⟩ | ⟨hno, rfl⟩
  · refine congrArg some ?_
    have hz : dF x k = 0 ∨ dF y k = 0 := by
      rcases hex with he | he
      · exact .inl ((dF_zero x k hx hk).2 he)
      · exact .inr ((dF_zero y k hy hk).2 he)
    rcases hz with hz | hz
    · have hm0 : m = 0 := by have := a1 k hk; omega
      have h1 : ¬ k < i1 := fun hlt => by have := a5 k hlt; omega
      have h2 : ¬ i1 < k := fun hlt => hno i1 hlt (.inl ((dF_zero x i1 hx a3).1 (by omega)))
      omega
    · have hn0 : n = 0 := by have := b1 k hk; omega
      obtain ⟨b3, b4, b5⟩ : i2 < 32 ∧ n = dF y i2 ∧ ∀ j, j < i2 → n < dF y j := by rcases b2 with h9 | h9; omega; exact h9
      have h1 : ¬ k < i2 := fun hlt => by have := b5 k hlt; omega
      have h2 : ¬ i2 < k := fun hlt => hno i2 hlt (.inr ((dF_zero y i2 hy b3).1 (by omega)))
      omega
  · obtain ⟨d1, d2⟩ := dd_spec x y 32
    have hb := (d1 i1 a3).1
    rcases d2 with d2 | ⟨d3, d4, d5⟩
    · omega
    · have hi : (ddK x y 32).2 = i1 := by
        have hmb : m ≤ (ddK x y 32).1 := by
          have e1 := a1 _ d3
          have e2 := b1 _ d3
          omega
        have h1 : ¬ i1 < (ddK x y 32).2 := fun hlt => by have := (d5 i1 hlt).1; omega
        rcases d4 with d4 | d4
        · have h2 : ¬ (ddK x y 32).2 < i1 := fun hlt => by have := a5 _ hlt; omega
          omega
        · have h4 := b1 _ d3
          obtain ⟨b3, b4, b5⟩ : i2 < 32 ∧ n = dF y i2 ∧ ∀ j, j < i2 → n < dF y j := by rcases b2 with h9 | h9; omega; exact h9
          have h2 : ¬ (ddK x y 32).2 < i2 := fun hlt => by have := b5 _ hlt; omega
          omega
      rw [if_pos (by omega), hi]
theorem dec_second (hx : x < 32768) (hy : y < 32768) (hm : nearK x 32 = (m, i1)) (hn : nearK y 32 = (n, i2)) (hD : Dec x y r) (h3 : n ≤ 3) (h : n < m) : r = some i2 := by
  have n1 := near_spec x 32
  have n2 := near_spec y 32
  rw [hm] at n1; rw [hn] at n2
  obtain ⟨a1, a2⟩ := n1
  obtain ⟨b1, b2⟩ := n2
  simp only at a1 a2 b1 b2
  obtain ⟨b3, b4, b5⟩ : i2 < 32 ∧ n = dF y i2 ∧ ∀ j, j < i2 → n < dF y j := by rcases b2 with h9 | h9; omega; exact h9
  rcases hD with ⟨k, rfl, hk, hex, hno⟩ | ⟨hno, rfl⟩
  · refine congrArg some ?_
    have hz : dF x k = 0 ∨ dF y k = 0 := by
      rcases hex with he | he
      · exact .inl ((dF_zero x k hx hk).2 he)
      · exact .inr ((dF_zero y k hy hk).2 he)
    rcases hz with hz | hz
    · have := a1 k hk; omega
    · have hn0 : n = 0 := by have := b1 k hk; omega
      have h1 : ¬ k < i2 := fun hlt => by have := b5 k hlt; omega
      have h2 : ¬ i2 < k := fun hlt => hno i2 hlt (.inr ((dF_zero y i2 hy b3).1 (by omega)))
      omega
  · obtain ⟨d1, d2⟩ := dd_spec x y 32
    have hb := (d1 i2 b3).2
    rcases d2 with d2 | ⟨d3, d4, d5⟩
    · omega
    · have hi : (ddK x y 32).2 = i2 := by
        have hmb : n ≤ (ddK x y 32).1 := by
          have e1 := a1 _ d3
          have e2 := b1 _ d3
          omega
        have h1 : ¬ i2 < (ddK x y 32).2 := fun hlt => by have := (d5 i2 hlt).2; omega
        rcases d4 with d4 | d4
        · have := a1 _ d3; omega
        · have h2 : ¬ (ddK x y 32).2 < i2 := fun hlt => by have := b5 _ hlt; omega
          omega
      rw [if_pos (by omega), hi]
theorem dec_none (hx : x < 32768) (hy : y < 32768) (hm : nearK x 32 = (m, i1)) (hn : nearK y 32 = (n, i2)) (hD : Dec x y r) (h3 : 3 < m) (h4 : 3 < n) : r = none := by
  have n1 := near_spec x 32
  have n2 := near_spec y 32
  rw [hm] at n1; rw [hn] at n2
  obtain ⟨a1, a2⟩ := n1
  obtain ⟨b1, b2⟩ := n2
  simp only at a1 a2 b1 b2
  rcases hD with ⟨k, rfl, hk, hex, hno⟩ | ⟨hno, rfl⟩
  · exfalso
    rcases hex with he | he
    · have := (dF_zero x k hx hk).2 he; have := a1 k hk; omega
    · have := (dF_zero y k hy hk).2 he; have := b1 k hk; omega
  · obtain ⟨d1, d2⟩ := dd_spec x y 32
    rw [if_neg]
    rcases d2 with d2 | ⟨d3, d4, d5⟩
    · omega
    · have h1 := a1 _ d3
      have h2 := b1 _ d3
      omega
end
/-- What two copies tell, with the mask and without. -/
def Dec2 (x y : Nat) (r : Option Nat) : Prop := (∃ k, Dec x y (some k) ∧ r = some k) ∨ (Dec x y none ∧ Dec (x ^^^ 21522) (y ^^^ 21522) r)
def Dec2P (w : World) (x y : Nat) (e : Ending) (w' : World) : Prop := ∃ r, Dec2 x y r ∧ DecE w r e w'
theorem decode_any (x y : Nat) (w : World) (hx : x < 32768) (hy : y < 32768) :
    Calls Try.prog 73 #[.int .u64 x, .int .u64 y] w (Dec2P w x y) := by
  have e1 : bits .xor .u64 (x : Int) 21522 = ((x ^^^ 21522 : Nat) : Int) := u64_xor x 21522 (by omega) (by decide)
  have e2 : bits .xor .u64 (y : Int) 21522 = ((y ^^^ 21522 : Nat) : Int) := u64_xor y 21522 (by omega) (by decide)
  have l1 : x ^^^ 21522 < 32768 := Nat.xor_lt_two_pow (n := 15) hx (by decide)
  have l2 : y ^^^ 21522 < 32768 := Nat.xor_lt_two_pow (n := 15) hy (by decide)
  have hd2 := fun w' => doDecode_any (x ^^^ 21522) (y ^^^ 21522) w' l1 l2
  have HD2 := Lib.hid hd2; clear hd2
  have hdd : ∀ r, Dec x y none → Dec (x ^^^ 21522) (y ^^^ 21522) r → Dec2 x y r := fun r h1 h2 => .inr ⟨h1, h2⟩
  have HDD := Lib.hid hdd; clear hdd
  have hpp : ∀ w' e w'', DecP w' (x ^^^ 21522) (y ^^^ 21522) e w'' → ∃ r, Dec (x ^^^ 21522) (y ^^^ 21522) r ∧ DecE w' r e w'' := fun _ _ _ h => h
  have HPP := Lib.hid hpp; clear hpp
  generalize x ^^^ 21522 = x2 at *
  generalize y ^^^ 21522 = y2 at *
  go_enter Try.func73, Try.ntmps73
  go_wp2_with fail
  refine (doDecode_any x y w hx hy).mono ?_
  rintro e w1 ⟨r, hD, hb, hr⟩
  have HB := Lib.hid hb; clear hb
  rcases hr with ⟨rfl, rfl⟩ | ⟨k, p, rfl, hk, rfl, hp⟩
  · have HD := Lib.hid hD; clear hD
    go_wp2_with fail
    refine (HD2.out _).mono ?_
    rintro e w2 hP
    obtain ⟨r2, hD2, hb2, hr2⟩ := HPP.out _ _ _ hP
    have HB2 := Lib.hid (bup HB.out hb2)
    have HDe := Lib.hid (HDD.out r2 HD.out hD2)
    clear hP hD2 hb2
    rcases hr2 with ⟨rfl, rfl⟩ | ⟨k, p, rfl, hk, rfl, hp⟩
    · go_wp2
      go_ret
      exact ⟨none, HDe.out, HB2.out, .inl ⟨rfl, rfl⟩⟩
    · have HP := Lib.hid hp; clear hp
      go_wp2
      go_ret
      exact ⟨some k, HDe.out, HB2.out, .inr ⟨k, p, rfl, hk, rfl, HP.out⟩⟩
  · have HP := Lib.hid hp; clear hp
    have HDe : Hid (Dec2 x y (some k)) := Lib.hid (.inl ⟨k, hD, rfl⟩)
    clear hD
    go_wp2
    go_ret
    exact ⟨some k, HDe.out, HB.out, .inr ⟨k, p, rfl, hk, rfl, HP.out⟩⟩
theorem fiLevel_any (p : Nat) (l : Int) (u : Value) (w : World) (h : Blk w p 135 #[.int .i64 l, u]) : Calls Try.prog 46 #[.pointer (some ⟨p, 0, none⟩)] w fun e w' => e = .returned (.int .i64 l) ∧ w' = w := by
  have c0 : w.cell? ⟨p, 0, none⟩ = some (.int .i64 l) := by rw [h.cell]; rfl
  clear h
  go_enter Try.func46, Try.ntmps46
  go_wp2
  go_ret
  exact ⟨rfl, rfl⟩
theorem fiMask_any (p : Nat) (m : Int) (u : Value) (w : World) (h : Blk w p 135 #[u, .int .u8 m]) : Calls Try.prog 48 #[.pointer (some ⟨p, 0, none⟩)] w fun e w' => e = .returned (.int .u8 m) ∧ w' = w := by
  have c0 : w.cell? ⟨p, 1, none⟩ = some (.int .u8 m) := by rw [h.cell]; rfl
  clear h
  go_enter Try.func48, Try.ntmps48
  go_wp2
  go_ret
  exact ⟨rfl, rfl⟩
theorem lvBits_any (l : Int) (w : World) : Calls Try.prog 47 #[.int .i64 l] w fun e w' => e = .returned (.int .i64 l) ∧ w' = w := by
  go_enter Try.func47, Try.ntmps47
  go_wp2
  go_ret
  exact ⟨rfl, rfl⟩
def FmtP (w : World) (x y : Nat) (e : Ending) (w' : World) : Prop :=
  Below w.heap.size w w' ∧ ((Dec2 x y none ∧ e = .returned (.tuple #[.int .i64 0, .int .i64 0, .bool false])) ∨ ∃ k, Dec2 x y (some k) ∧ k < 32 ∧ e = .returned (.tuple #[.int .i64 ((k / 8 : Nat) : Int), .int .i64 ((k % 8 : Nat) : Int), .bool true]))
end Go.Proofs.Ytfgajbhgkdkmbaa
