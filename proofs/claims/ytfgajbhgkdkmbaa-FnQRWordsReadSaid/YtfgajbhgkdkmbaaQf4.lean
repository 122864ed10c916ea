/-
  WALKS: doDecodeFormatInformation.
-/
import Derived.Test.YtfgajbhgkdkmbaaQf3
namespace Go.Proofs.Ytfgajbhgkdkmbaa
open Go.RowKit

def exF (x y k : Nat) : Prop := fmtT k = x ∨ fmtT k = y
def dd1 (x k : Nat) (s : Nat × Nat) : Nat × Nat := if dF x k < s.1 then (dF x k, k) else s
def ddK (x y : Nat) : Nat → Nat × Nat
  | 0 => (2147483647, 0)
  | k + 1 => if x = y then dd1 x k (ddK x y k) else dd1 y k (dd1 x k (ddK x y k))
/-- What two copies tell. -/
def Dec (x y : Nat) (r : Option Nat) : Prop :=
  (∃ k, r = some k ∧ k < 32 ∧ exF x y k ∧ ∀ j, j < k → ¬ exF x y j) ∨ ((∀ j, j < 32 → ¬ exF x y j) ∧ r = if (ddK x y 32).1 ≤ 3 then some (ddK x y 32).2 else none)
/-- The ending of the decoding. -/
def DecE (w : World) (r : Option Nat) (e : Ending) (w' : World) : Prop :=
  Below w.heap.size w w' ∧ ((r = none ∧ e = .returned (.pointer none)) ∨ ∃ k p, r = some k ∧ k < 32 ∧ e = .returned (.pointer (some ⟨p, 0, none⟩)) ∧ Blk w' p 135 #[.int .i64 ((k / 8 : Nat) : Int), .int .u8 ((k % 8 : Nat) : Int)])
def DecP (w : World) (x y : Nat) (e : Ending) (w' : World) : Prop := ∃ r, Dec x y r ∧ DecE w r e w'
theorem dd1_ok (x k : Nat) (s : Nat × Nat) (hk : k < 32) (h1 : s.1 ≤ 2147483647) (h2 : s.2 < 32) : (dd1 x k s).1 ≤ 2147483647 ∧ (dd1 x k s).2 < 32 := by
  have := pc_le (x ^^^ fmtT k)
  unfold dd1; split
  · exact ⟨by show dF x k ≤ _; unfold dF; omega, hk⟩
  · exact ⟨h1, h2⟩
set_option maxRecDepth 100000 in
set_option maxHeartbeats 2000000 in
theorem doDecode_any (x y : Nat) (w : World) (hx : x < 32768) (hy : y < 32768) :
    Calls Try.prog 117 #[.int .u64 x, .int .u64 y] w (DecP w x y) := by
  go_enter Try.func117, Try.ntmps117
  go_wp2_with fail
  refine (lookup_any w).mono ?_
  rintro e w1 ⟨g, rfl, hl, hb⟩
  have HL := Lib.hid hl; have HB1 := Lib.hid hb; clear hl hb
  go_wp2_with fail
  go_loopw [5, 6, 13] (fun bv iv kv wr => ∃ (k b i : Nat), k ≤ 32 ∧ b ≤ 2147483647 ∧ i < 32 ∧ kv = .int .i64 k ∧ bv = .int .i64 b ∧ iv = .int .u64 i ∧ Hid (∀ j, j < k → ¬ exF x y j) ∧ Hid ((b, i) = ddK x y k) ∧ Hid (Below w1.heap.size w1 wr)) (fun _ _ kv _ => 32 - (intOf kv).toNat)
  case atStart => exact ⟨0, 2147483647, 0, by omega, by omega, by omega, rfl, rfl, rfl, Lib.hid (fun j hj => absurd hj (Nat.not_lt_zero _)), Lib.hid rfl, Lib.hid (brf w1)⟩
  case round =>
    obtain ⟨k, b, i, hk, hb, hi, rfl, rfl, rfl, HN, HD, HB⟩ := hrel
    by_cases hlt : k < 32
    · obtain ⟨h, hc0, hc1, hc2⟩ := HL.out k hlt
      have c0 := cell_up hc0 HB.out
      have c1 := cell_up hc1 HB.out
      have c2 := cell_up hc2 HB.out
      have hft := fmtT_lt k hlt
      clear hc0 hc1 hc2
      by_cases hex : exF x y k
      · have HEx := Lib.hid hex
        have hq : ((fmtT k : Nat) : Int) = (x : Int) ∨ (((fmtT k : Nat) : Int) ≠ (x : Int) ∧ ((fmtT k : Nat) : Int) = (y : Int)) := by unfold exF at hex; omega
        clear hex
        generalize fmtT k = t at *
        rcases hq with hq | ⟨hq1, hq⟩
        · have hb1 : ((t : Int) == (x : Int)) = true := by rw [beq_iff_eq]; exact hq
          clear hq
          go_wp2_with fail
          refine (newFI_any k _ hlt).mono ?_
          rintro e w2 ⟨p, rfl, hp, hb2⟩
          have HP := Lib.hid (And.intro hp (bup HB1.out (bup HB.out hb2))); clear hp hb2
          go_wp2
          go_ret
          exact ⟨some k, .inl ⟨k, rfl, hlt, HEx.out, HN.out⟩, HP.out.2, .inr ⟨k, p, rfl, hlt, rfl, HP.out.1⟩⟩
        · have hb1 : ((t : Int) == (x : Int)) = false := by rw [beq_eq_false_iff_ne]; exact hq1
          have hb2 : ((t : Int) == (y : Int)) = true := by rw [beq_iff_eq]; exact hq
          clear hq hq1
          go_wp2_with fail
          refine (newFI_any k _ hlt).mono ?_
          rintro e w2 ⟨p, rfl, hp, hb3⟩
          have HP := Lib.hid (And.intro hp (bup HB1.out (bup HB.out hb3))); clear hp hb3
          go_wp2
          go_ret
          exact ⟨some k, .inl ⟨k, rfl, hlt, HEx.out, HN.out⟩, HP.out.2, .inr ⟨k, p, rfl, hlt, rfl, HP.out.1⟩⟩
      · have hb1 : (((fmtT k : Nat) : Int) == (x : Int)) = false := by rw [beq_eq_false_iff_ne]; unfold exF at hex; omega
        have hb2 : (((fmtT k : Nat) : Int) == (y : Int)) = false := by rw [beq_eq_false_iff_ne]; unfold exF at hex; omega
        have HN2 : Hid (∀ j, j < k + 1 → ¬ exF x y j) := Lib.hid (fun j hj => by
          rcases Nat.lt_or_ge j k with h1 | h1
          · exact HN.out j h1
          · rw [show j = k by omega]; exact hex)
        have h1 : ∀ w', Calls Try.prog 115 #[.int .u64 x, .int .u64 ((fmtT k : Nat) : Int)] w' fun e w'' => e = .returned (.int .i64 (dF x k : Nat)) ∧ w'' = w' := fun w' => differing_any x (fmtT k) w' hx hft
        have h2 : ∀ w', Calls Try.prog 115 #[.int .u64 y, .int .u64 ((fmtT k : Nat) : Int)] w' fun e w'' => e = .returned (.int .i64 (dF y k : Nat)) ∧ w'' = w' := fun w' => differing_any y (fmtT k) w' hy hft
        have H1 := Lib.hid h1; have H2 := Lib.hid h2
        clear hex HN h1 h2
        have hds : ddK x y (k + 1) = if x = y then dd1 x k (b, i) else dd1 y k (dd1 x k (b, i)) := by
          have := HD.out
          show (if x = y then dd1 x k (ddK x y k) else dd1 y k (dd1 x k (ddK x y k))) = _
          rw [← this]
        have hd1l : dF x k ≤ 18 := pc_le _
        generalize fmtT k = t at *
        by_cases hd1 : dF x k < b
        · have he1 : dd1 x k (b, i) = (dF x k, k) := by unfold dd1; rw [if_pos hd1]
          rw [he1] at hds
          clear he1
          generalize dF x k = d1 at *
          have HDS := Lib.hid hds; clear hds
          go_wp2_with fail
          refine (H1.out _).mono ?_
          rintro e wr ⟨rfl, rfl⟩
          have h1 : True := trivial
          have h2 : True := trivial
          -- the second copy, behind the first one: best b1, format i1
          by_cases hxy : x = y
          · have hxn : ((x : Int) != (y : Int)) = false := by rw [bne_eq_false_iff_eq]; omega
            have HD2 : Hid ((d1, k) = ddK x y (k + 1)) := Lib.hid (by rw [HDS.out, if_pos hxy])
            clear HDS HD h1 h2 hxy
            go_wp2
            go_roundw
            case rel => exact ⟨k + 1, _, _, by omega, (by omega), (by omega), by go_num, rfl, rfl, HN2, HD2, HB⟩
            case measure => simp [intOf]; omega
          · have hxn : ((x : Int) != (y : Int)) = true := by rw [bne_iff_ne]; omega
            have hds := HDS.out
            rw [if_neg hxy] at hds
            by_cases hd2 : dF y k < d1
            · have HD2 : Hid ((dF y k, k) = ddK x y (k + 1)) := Lib.hid (by rw [hds]; unfold dd1; rw [if_pos hd2])
              have h2 := H2.out
              have hd2l : dF y k ≤ 18 := pc_le _
              clear HDS HD h1 hds
              generalize dF y k = d2 at *
              have HH2 := Lib.hid h2; clear h2
              go_wp2_with fail
              refine (HH2.out _).mono ?_
              rintro e wr ⟨rfl, rfl⟩
              go_wp2
              go_roundw
              case rel => exact ⟨k + 1, _, _, by omega, (by omega), (by omega), by go_num, rfl, rfl, HN2, HD2, HB⟩
              case measure => simp [intOf]; omega
            · have HD2 : Hid ((d1, k) = ddK x y (k + 1)) := Lib.hid (by rw [hds]; unfold dd1; rw [if_neg hd2])
              have h2 := H2.out
              have hd2l : dF y k ≤ 18 := pc_le _
              clear HDS HD h1 hds
              generalize dF y k = d2 at *
              have HH2 := Lib.hid h2; clear h2
              go_wp2_with fail
              refine (HH2.out _).mono ?_
              rintro e wr ⟨rfl, rfl⟩
              go_wp2
              go_roundw
              case rel => exact ⟨k + 1, _, _, by omega, (by omega), (by omega), by go_num, rfl, rfl, HN2, HD2, HB⟩
              case measure => simp [intOf]; omega
        · have he1 : dd1 x k (b, i) = (b, i) := by unfold dd1; rw [if_neg hd1]
          rw [he1] at hds
          clear he1
          generalize dF x k = d1 at *
          have HDS := Lib.hid hds; clear hds
          go_wp2_with fail
          refine (H1.out _).mono ?_
          rintro e wr ⟨rfl, rfl⟩
          have h1 : True := trivial
          have h2 : True := trivial
          -- the second copy, behind the first one: best b1, format i1
          by_cases hxy : x = y
          · have hxn : ((x : Int) != (y : Int)) = false := by rw [bne_eq_false_iff_eq]; omega
            have HD2 : Hid ((b, i) = ddK x y (k + 1)) := Lib.hid (by rw [HDS.out, if_pos hxy])
            clear HDS HD h1 h2 hxy
            go_wp2
            go_roundw
            case rel => exact ⟨k + 1, _, _, by omega, (by omega), (by omega), by go_num, rfl, rfl, HN2, HD2, HB⟩
            case measure => simp [intOf]; omega
          · have hxn : ((x : Int) != (y : Int)) = true := by rw [bne_iff_ne]; omega
            have hds := HDS.out
            rw [if_neg hxy] at hds
            by_cases hd2 : dF y k < b
            · have HD2 : Hid ((dF y k, k) = ddK x y (k + 1)) := Lib.hid (by rw [hds]; unfold dd1; rw [if_pos hd2])
              have h2 := H2.out
              have hd2l : dF y k ≤ 18 := pc_le _
              clear HDS HD h1 hds
              generalize dF y k = d2 at *
              have HH2 := Lib.hid h2; clear h2
              go_wp2_with fail
              refine (HH2.out _).mono ?_
              rintro e wr ⟨rfl, rfl⟩
              go_wp2
              go_roundw
              case rel => exact ⟨k + 1, _, _, by omega, (by omega), (by omega), by go_num, rfl, rfl, HN2, HD2, HB⟩
              case measure => simp [intOf]; omega
            · have HD2 : Hid ((b, i) = ddK x y (k + 1)) := Lib.hid (by rw [hds]; unfold dd1; rw [if_neg hd2])
              have h2 := H2.out
              have hd2l : dF y k ≤ 18 := pc_le _
              clear HDS HD h1 hds
              generalize dF y k = d2 at *
              have HH2 := Lib.hid h2; clear h2
              go_wp2_with fail
              refine (HH2.out _).mono ?_
              rintro e wr ⟨rfl, rfl⟩
              go_wp2
              go_roundw
              case rel => exact ⟨k + 1, _, _, by omega, (by omega), (by omega), by go_num, rfl, rfl, HN2, HD2, HB⟩
              case measure => simp [intOf]; omega
    · obtain rfl : k = 32 := by omega
      by_cases hb3 : b ≤ 3
      · go_wp2_with fail
        refine (newFI_any i _ hi).mono ?_
        rintro e w2 ⟨p, rfl, hp, hb2⟩
        have HP := Lib.hid (And.intro hp (bup HB1.out (bup HB.out hb2))); clear hp hb2
        go_wp2
        go_ret
        exact ⟨some i, .inr ⟨HN.out, by rw [← HD.out, if_pos hb3]⟩, HP.out.2, .inr ⟨i, p, rfl, hi, rfl, HP.out.1⟩⟩
      · go_wp2
        go_ret
        exact ⟨none, .inr ⟨HN.out, by rw [← HD.out, if_neg hb3]⟩, bup HB1.out HB.out, .inl ⟨rfl, rfl⟩⟩
end Go.Proofs.Ytfgajbhgkdkmbaa
