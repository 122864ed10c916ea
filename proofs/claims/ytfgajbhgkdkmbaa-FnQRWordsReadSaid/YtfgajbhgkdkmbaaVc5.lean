/-
  WALKS: BitMatrixParser.ReadFormatInformation; ReadVersion of a small symbol.
-/
import Derived.Test.YtfgajbhgkdkmbaaVc4
import Derived.Test.YtfgajbhgkdkmbaaQf5
namespace Go.Proofs.Ytfgajbhgkdkmbaa
open Go.RowKit

theorem fmtT_inj_all : ((List.range 32).all fun i => (List.range 32).all fun j => Nat.beq i j || !Nat.beq (fmtT i) (fmtT j)) = true := by decide +kernel
theorem fmtT_inj {i j : Nat} (hi : i < 32) (hj : j < 32) (h : fmtT i = fmtT j) : i = j := by
  have h1 := List.all_eq_true.1 fmtT_inj_all i (List.mem_range.2 hi)
  have h2 := List.all_eq_true.1 h1 j (List.mem_range.2 hj)
  rw [h, Bool.or_eq_true] at h2
  rcases h2 with h2 | h2
  · exact Nat.eq_of_beq_eq_true h2
  · rw [Nat.beq_refl] at h2; cases h2
/-- Two exact copies tell. -/
theorem dec2_exact {k0 : Nat} {r : Option Nat} (hk : k0 < 32) (h : Dec2 (fmtT k0) (fmtT k0) r) : r = some k0 := by
  have one : ∀ r, Dec (fmtT k0) (fmtT k0) r → r = some k0 := fun r h => by
    rcases h with ⟨k, rfl, hk2, hex, _⟩ | ⟨hno, _⟩
    · rcases hex with he | he
      · rw [fmtT_inj hk2 hk he]
      · rw [fmtT_inj hk2 hk he]
    · exact absurd (Or.inl rfl) (hno k0 hk)
  rcases h with ⟨k, h1, rfl⟩ | ⟨h1, _⟩
  · exact one _ h1
  · have := one _ h1; cases this
set_option maxRecDepth 100000 in
set_option maxHeartbeats 4000000 in
theorem readFormat_any (p m g base n k0 : Nat) (pv : Value) (f : Nat → Nat → Bool) (w : World) (hp : ParA w p m pv (.pointer none)) (hm : MatAt w m g n n f) (h21 : 21 ≤ n) (hn : n ≤ 177) (hbase : base ≤ p) (hk0 : k0 < 32)
    (hf : ∀ c r k : Nat, c < n → r < n → fmtI n r c = (k : Int) → f c r = bitN (fmtT k0) (k : Int)) :
    Calls Try.prog 44 #[.pointer (some ⟨p, 0, none⟩)] w fun e w' =>
      ∃ q, e = .returned (.tuple #[.pointer (some ⟨q, 0, none⟩), .nilIface]) ∧ Blk w' q 135 #[.int .i64 ((k0 / 8 : Nat) : Int), .int .u8 ((k0 % 8 : Nat) : Int)] ∧
        ParA w' p m pv (.pointer (some ⟨q, 0, none⟩)) ∧ MatAt w' m g n n f ∧ (∀ q' v, VerAt w q' v → VerAt w' q' v) ∧ Below base w w' := by
  have hx : fmtT k0 < 32768 := fmtT_lt k0 hk0
  have hdec := fun w' => decode_any (fmtT k0) (fmtT k0) w' hx hx
  have hex := fun r h => dec2_exact (r := r) hk0 h
  have c2 : w.cell? ⟨p, 2, none⟩ = some (.pointer none) := by rw [hp.cell]; rfl
  have c0 : w.cell? ⟨p, 0, none⟩ = some (.pointer (some ⟨m, 0, none⟩)) := by rw [hp.cell]; rfl
  have hH := matHeight_any m g n n f w hm
  have HCB : Hid (∀ (x y vb : Nat), x < n → y < n → vb ≤ 1048576 → Calls Try.prog 69 #[.pointer (some ⟨p, 0, none⟩), .int .i64 x, .int .i64 y, .int .i64 vb] w fun e w' => e = .returned (.int .i64 ((vb * 2 + (f x y).toNat : Nat) : Int)) ∧ w' = w) := Lib.hid (fun x y vb h1 h2 h3 => copyBit_any p m g n x y vb pv (.pointer none) f w hp hm h1 h2 (by omega) h3)
  have HF := Lib.hid hf; have HP := Lib.hid hp; have HM := Lib.hid hm; have HDEC := Lib.hid hdec; have HEX := Lib.hid hex
  clear hf hp hm hdec hex
  generalize fmtT k0 = x at *
  obtain ⟨wq, rfl⟩ : ∃ wo : World, wo = w := ⟨_, rfl⟩
  go_enter Try.func44, Try.ntmps44
  go_wp2_with fail
  clear c2
  go_loopw [4, 5] (fun bv iv wr => ∃ (i z : Nat), i ≤ 6 ∧ iv = .int .i64 (i : Int) ∧ bv = .int .i64 z ∧ z < 32768 ∧ Hid (z = x / 2 ^ (15 - i)) ∧ wr = wq) (fun _ iv _ => 6 - (intOf iv).toNat)
  case atStart => exact ⟨0, 0, by omega, rfl, rfl, by omega, Lib.hid (bit_top x 15 hx).symm, rfl⟩
  case round =>
    obtain ⟨i, z, hi, rfl, rfl, hz, HZ, rfl⟩ := hrel
    rename World => wq
    by_cases hlt : i < 6
    · have e : 15 - i = (14 - i) + 1 := by omega
      rw [e] at HZ
      -- one bit: column, row, the place behind, the number ahead, its fact, the number behind, its fact
      have hcb := HCB.out i 8 z (by omega) (by omega) (by omega)
      obtain ⟨z2, hnew⟩ : ∃ zq, zq = z * 2 + (f i 8).toNat := ⟨_, rfl⟩
      rw [← hnew] at hcb
      have HZ2 : Hid (z2 = x / 2 ^ (14 - i)) := Lib.hid (by
        rw [hnew, HZ.out, HF.out i 8 (14 - i) (by omega) (by omega) (by unfold fmtI; split <;> (try split) <;> (try split) <;> (try split) <;> (try split) <;> (try split) <;> (try split) <;> omega)]
        exact bit_acc x _)
      have hzb : z2 < 32768 := by rw [HZ2.out]; exact Nat.lt_of_le_of_lt (bit_le _ _) hx
      clear hnew HZ
      clear e hz
      go_wp2_with fail
      refine hcb.mono ?_
      rintro e wq ⟨rfl, rfl⟩
      go_wp2_with fail
      go_roundw
      case rel => exact ⟨i + 1, z2, by omega, by go_num, rfl, hzb, Lib.hid (by rw [HZ2.out]; congr 2; omega), trivial⟩
      case measure => simp [intOf] <;> omega
    · obtain rfl : i = 6 := by omega
      clear hlt
      -- one bit: column, row, the place behind, the number ahead, its fact, the number behind, its fact
      have hcb := HCB.out 7 8 z (by omega) (by omega) (by omega)
      obtain ⟨z2, hnew⟩ : ∃ zq, zq = z * 2 + (f 7 8).toNat := ⟨_, rfl⟩
      rw [← hnew] at hcb
      have HZ2 : Hid (z2 = x / 2 ^ 8) := Lib.hid (by
        rw [hnew, HZ.out, HF.out 7 8 8 (by omega) (by omega) (by unfold fmtI; split <;> (try split) <;> (try split) <;> (try split) <;> (try split) <;> (try split) <;> (try split) <;> omega)]
        exact bit_acc x _)
      have hzb : z2 < 32768 := by rw [HZ2.out]; exact Nat.lt_of_le_of_lt (bit_le _ _) hx
      clear hnew HZ
      clear hz hi
      go_wp2_with fail
      refine hcb.mono ?_
      rintro e wq ⟨rfl, rfl⟩
      clear hcb
      rename z2 < 32768 => hz2
      -- one bit: column, row, the place behind, the number ahead, its fact, the number behind, its fact
      have hcb := HCB.out 8 8 z2 (by omega) (by omega) (by omega)
      obtain ⟨z3, hnew⟩ : ∃ zq, zq = z2 * 2 + (f 8 8).toNat := ⟨_, rfl⟩
      rw [← hnew] at hcb
      have HZ3 : Hid (z3 = x / 2 ^ 7) := Lib.hid (by
        rw [hnew, HZ2.out, HF.out 8 8 7 (by omega) (by omega) (by unfold fmtI; split <;> (try split) <;> (try split) <;> (try split) <;> (try split) <;> (try split) <;> (try split) <;> omega)]
        exact bit_acc x _)
      have hzb : z3 < 32768 := by rw [HZ3.out]; exact Nat.lt_of_le_of_lt (bit_le _ _) hx
      clear hnew HZ2
      go_wp2_with fail
      refine hcb.mono ?_
      rintro e wq ⟨rfl, rfl⟩
      clear hcb hz2
      rename z3 < 32768 => hz3
      -- one bit: column, row, the place behind, the number ahead, its fact, the number behind, its fact
      have hcb := HCB.out 8 7 z3 (by omega) (by omega) (by omega)
      obtain ⟨z4, hnew⟩ : ∃ zq, zq = z3 * 2 + (f 8 7).toNat := ⟨_, rfl⟩
      rw [← hnew] at hcb
      have HZ4 : Hid (z4 = x / 2 ^ 6) := Lib.hid (by
        rw [hnew, HZ3.out, HF.out 8 7 6 (by omega) (by omega) (by unfold fmtI; split <;> (try split) <;> (try split) <;> (try split) <;> (try split) <;> (try split) <;> (try split) <;> omega)]
        exact bit_acc x _)
      have hzb : z4 < 32768 := by rw [HZ4.out]; exact Nat.lt_of_le_of_lt (bit_le _ _) hx
      clear hnew HZ3
      go_wp2_with fail
      refine hcb.mono ?_
      rintro e wq ⟨rfl, rfl⟩
      clear hcb hz3
      rename z4 < 32768 => hz4
      go_wp2_with fail
      go_loopw [4, 6] (fun bv iv wr => ∃ (i z : Nat), i ≤ 6 ∧ iv = .int .i64 ((i : Int) - 1) ∧ bv = .int .i64 z ∧ z < 32768 ∧ Hid (z = x / 2 ^ i) ∧ wr = wq) (fun _ iv _ => (intOf iv + 1).toNat)
      case atStart => exact ⟨6, z4, by omega, rfl, rfl, hz4, HZ4, rfl⟩
      case round =>
        clear hz4 HZ4
        obtain ⟨i, z, hi, rfl, rfl, hz, HZ, rfl⟩ := hrel
        rename World => wq
        by_cases hlt : 1 ≤ i
        · obtain ⟨jq, hjq⟩ : ∃ jq, jq = i - 1 := ⟨_, rfl⟩
          have e1 : (i : Int) - 1 = (jq : Int) := by omega
          have e2 : i = jq + 1 := by omega
          rw [e1]
          rw [e2] at HZ
          have hj5 : jq ≤ 5 := by omega
          clear hjq e1 e2
          -- one bit: column, row, the place behind, the number ahead, its fact, the number behind, its fact
          have hcb := HCB.out 8 jq z (by omega) (by omega) (by omega)
          obtain ⟨z2, hnew⟩ : ∃ zq, zq = z * 2 + (f 8 jq).toNat := ⟨_, rfl⟩
          rw [← hnew] at hcb
          have HZ2 : Hid (z2 = x / 2 ^ jq) := Lib.hid (by
            rw [hnew, HZ.out, HF.out 8 jq jq (by omega) (by omega) (by unfold fmtI; split <;> (try split) <;> (try split) <;> (try split) <;> (try split) <;> (try split) <;> (try split) <;> omega)]
            exact bit_acc x _)
          have hzb : z2 < 32768 := by rw [HZ2.out]; exact Nat.lt_of_le_of_lt (bit_le _ _) hx
          clear hnew HZ
          clear hz
          go_wp2_with fail
          refine hcb.mono ?_
          rintro e wq ⟨rfl, rfl⟩
          go_wp2_with fail
          go_roundw
          case rel => exact ⟨jq, z2, by omega, by go_num, rfl, hzb, HZ2, trivial⟩
          case measure => simp [intOf] <;> omega
        · obtain rfl : i = 0 := by omega
          obtain rfl : x = z := by have := HZ.out; rw [Nat.pow_zero, Nat.div_one] at this; exact this.symm
          clear hz HZ hlt hi
          go_wp2_with fail
          refine hH.mono ?_
          rintro e wq ⟨rfl, rfl⟩
          clear hH c0
          go_wp2_with fail
          go_loopw [8, 10] (fun bv iv wr => ∃ (i z : Nat), i ≤ 7 ∧ iv = .int .i64 ((n : Int) - 8 + (i : Int)) ∧ bv = .int .i64 z ∧ z < 32768 ∧ Hid (z = x / 2 ^ (8 + i)) ∧ wr = wq) (fun _ iv _ => (intOf iv - (n : Int) + 8).toNat)
          case atStart => exact ⟨7, 0, by omega, by congr 1; omega, rfl, by omega, Lib.hid (bit_top x 15 hx).symm, rfl⟩
          case round =>
            obtain ⟨i, z, hi, rfl, rfl, hz, HZ, rfl⟩ := hrel
            rename World => wq
            by_cases hlt : 1 ≤ i
            · obtain ⟨jq, hjq⟩ : ∃ jq, jq = n - 8 + i := ⟨_, rfl⟩
              obtain ⟨iq, hiq⟩ : ∃ iq, iq = i - 1 := ⟨_, rfl⟩
              have e1 : (n : Int) - 8 + (i : Int) = (jq : Int) := by omega
              have e2 : 8 + i = (8 + iq) + 1 := by omega
              rw [e1]
              rw [e2] at HZ
              -- one bit: column, row, the place behind, the number ahead, its fact, the number behind, its fact
              have hcb := HCB.out 8 jq z (by omega) (by omega) (by omega)
              obtain ⟨z2, hnew⟩ : ∃ zq, zq = z * 2 + (f 8 jq).toNat := ⟨_, rfl⟩
              rw [← hnew] at hcb
              have HZ2 : Hid (z2 = x / 2 ^ (8 + iq)) := Lib.hid (by
                rw [hnew, HZ.out, HF.out 8 jq (8 + iq) (by omega) (by omega) (by unfold fmtI; split <;> (try split) <;> (try split) <;> (try split) <;> (try split) <;> (try split) <;> (try split) <;> omega)]
                exact bit_acc x _)
              have hzb : z2 < 32768 := by rw [HZ2.out]; exact Nat.lt_of_le_of_lt (bit_le _ _) hx
              clear hnew HZ
              have e3 : (jq : Int) - 1 = (n : Int) - 8 + (iq : Int) := by omega
              have HE3 := Lib.hid e3
              have hj5 : iq ≤ 6 := by omega
              have hjn : n - 7 ≤ jq := by omega
              have hjn2 : jq < n := by omega
              clear hz e1 e2 e3 hiq hjq
              go_wp2_with fail
              refine hcb.mono ?_
              rintro e wq ⟨rfl, rfl⟩
              go_wp2_with fail
              go_roundw
              case rel => exact ⟨iq, z2, by omega, by first | rfl | exact congrArg (Value.int .i64) HE3.out, rfl, hzb, HZ2, trivial⟩
              case measure => simp [intOf] <;> omega
            · obtain rfl : i = 0 := by omega
              clear hlt hi
              rw [show (n : Int) - 8 + ((0 : Nat) : Int) = (n : Int) - 8 by omega]
              go_wp2_with fail
              go_loopw [8, 11] (fun bv iv wr => ∃ (i z : Nat), i ≤ 8 ∧ iv = .int .i64 ((n : Int) - 8 + (i : Int)) ∧ bv = .int .i64 z ∧ z < 32768 ∧ Hid (z = x / 2 ^ (8 - i)) ∧ wr = wq) (fun _ iv _ => ((n : Int) - intOf iv).toNat)
              case atStart => exact ⟨0, z, by omega, by congr 1; omega, rfl, hz, HZ, rfl⟩
              case round =>
                clear HZ hz
                obtain ⟨i, z, hi, rfl, rfl, hz, HZ, rfl⟩ := hrel
                rename World => wq
                by_cases hlt : i < 8
                · obtain ⟨jq, hjq⟩ : ∃ jq, jq = n - 8 + i := ⟨_, rfl⟩
                  have e1 : (n : Int) - 8 + (i : Int) = (jq : Int) := by omega
                  have e2 : 8 - i = (7 - i) + 1 := by omega
                  rw [e1]
                  rw [e2] at HZ
                  -- one bit: column, row, the place behind, the number ahead, its fact, the number behind, its fact
                  have hcb := HCB.out jq 8 z (by omega) (by omega) (by omega)
                  obtain ⟨z2, hnew⟩ : ∃ zq, zq = z * 2 + (f jq 8).toNat := ⟨_, rfl⟩
                  rw [← hnew] at hcb
                  have HZ2 : Hid (z2 = x / 2 ^ (7 - i)) := Lib.hid (by
                    rw [hnew, HZ.out, HF.out jq 8 (7 - i) (by omega) (by omega) (by unfold fmtI; split <;> (try split) <;> (try split) <;> (try split) <;> (try split) <;> (try split) <;> (try split) <;> omega)]
                    exact bit_acc x _)
                  have hzb : z2 < 32768 := by rw [HZ2.out]; exact Nat.lt_of_le_of_lt (bit_le _ _) hx
                  clear hnew HZ
                  have e3 : (jq : Int) + 1 = (n : Int) - 8 + ((i + 1 : Nat) : Int) := by omega
                  have HE3 := Lib.hid e3
                  have hjn : jq < n := by omega
                  have HJ := Lib.hid hjq
                  clear hz e1 e2 e3 hjq
                  go_wp2_with fail
                  refine hcb.mono ?_
                  rintro e wq ⟨rfl, rfl⟩
                  go_wp2_with fail
                  go_roundw
                  case rel => exact ⟨i + 1, z2, by omega, by first | rfl | exact congrArg (Value.int .i64) HE3.out, rfl, hzb, Lib.hid (by rw [HZ2.out]; congr 2; omega), trivial⟩
                  case measure => have := HJ.out; simp [intOf] <;> omega
                · obtain rfl : i = 8 := by omega
                  obtain rfl : x = z := by have := HZ.out; rw [Nat.sub_self, Nat.pow_zero, Nat.div_one] at this; exact this.symm
                  clear hz HZ hlt hi
                  go_wp2_with fail
                  refine (HDEC.out _).mono ?_
                  rintro e w1 ⟨r, hr, hb1, hrest⟩
                  have hrk := HEX.out r hr
                  subst hrk
                  clear hr HCB
                  rcases hrest with ⟨h0, _⟩ | ⟨k, q, h0, hk, rfl, hq⟩
                  · cases h0
                  · injection h0 with h0
                    subst h0
                    have c1 : w1.cell? ⟨p, 2, none⟩ = some (.pointer none) := by rw [(HP.out.up hb1).cell]; rfl
                    have f1 : w1.frozen? ⟨p, 2, none⟩ = false := Blk.frozen (HP.out.up hb1) 2
                    have HR1 : Hid (Blk (w1.setCell ⟨p, 2, none⟩ (.pointer (some ⟨q, 0, none⟩))) q 135 #[.int .i64 ((k0 / 8 : Nat) : Int), .int .u8 ((k0 % 8 : Nat) : Int)]) := Lib.hid (hq.kind (HP.out.up hb1) (by decide) _ _)
                    have hR2 := Blk.put (HP.out.up hb1) 2 (.pointer (some ⟨q, 0, none⟩))
                    have HR2 : Hid (ParA (w1.setCell ⟨p, 2, none⟩ (.pointer (some ⟨q, 0, none⟩))) p m pv (.pointer (some ⟨q, 0, none⟩))) := Lib.hid hR2
                    have HR3 := Lib.hid ((HM.out.up hb1).kind (HP.out.up hb1) 2 (.pointer (some ⟨q, 0, none⟩)))
                    have HR4 : Hid (∀ q' v, VerAt wq q' v → VerAt (w1.setCell ⟨p, 2, none⟩ (.pointer (some ⟨q, 0, none⟩))) q' v) := Lib.hid (fun q' v h => (h.up hb1).kind (HP.out.up hb1) _ _)
                    have HR5 : Hid (Below base wq (w1.setCell ⟨p, 2, none⟩ (.pointer (some ⟨q, 0, none⟩)))) := Lib.hid ((hb1.mono (Nat.le_trans hbase (Nat.le_of_lt (Blk.lt HP.out)))).setCell (p := ⟨p, 2, none⟩) hbase _)
                    clear hb1 hq HM HP hR2
                    go_wp2_with fail
                    go_ret2
                    exact ⟨q, rfl, HR1.out, HR2.out, HR3.out, HR4.out, HR5.out⟩
set_option maxRecDepth 100000 in
theorem readVersion_lo (p m g n v : Nat) (pf : Value) (f : Nat → Nat → Bool) (w : World) (hp : ParA w p m (.pointer none) pf) (hm : MatAt w m g n n f) (hn : n = 17 + 4 * v) (hv1 : 1 ≤ v) (hv6 : v ≤ 6) :
    Calls Try.prog 43 #[.pointer (some ⟨p, 0, none⟩)] w fun e w' => ∃ q, e = .returned (.tuple #[.pointer (some ⟨q, 0, none⟩), .nilIface]) ∧ VerAt w' q v ∧ Below w.heap.size w w' := by
  have c1 : w.cell? ⟨p, 1, none⟩ = some (.pointer none) := by rw [hp.cell]; rfl
  have c0 : w.cell? ⟨p, 0, none⟩ = some (.pointer (some ⟨m, 0, none⟩)) := by rw [hp.cell]; rfl
  have hH := matHeight_any m g n n f w hm
  have t1 : Int.tdiv ((n : Int) - 17) 4 = (v : Int) := by rw [Int.tdiv_eq_ediv_of_nonneg (by omega)]; omega
  have t2 : ((n : Int) - 17) / 4 = (v : Int) := by omega
  have hn41 : n ≤ 41 := by omega
  have hn21 : 21 ≤ n := by omega
  have hgv := getVersion_yes v w hv1 (by omega)
  clear hp hm hn
  go_enter Try.func43, Try.ntmps43
  go_wp2_with fail
  refine hH.mono ?_
  rintro e w ⟨rfl, rfl⟩
  clear c0 hH
  go_wp2_with fail
  refine hgv.mono ?_
  rintro e w1 ⟨q, rfl, hq, hb⟩
  have H := Lib.hid (And.intro hq hb); clear hq hb
  go_wp2_with fail
  go_ret2
  exact ⟨q, rfl, H.out.1, H.out.2⟩
end Go.Proofs.Ytfgajbhgkdkmbaa
