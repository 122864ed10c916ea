/-
  THE LAW of codes, walked.
-/
import Derived.Test.YtneojmkccgjcgaaRf3
import Derived.Test.YtneojmkccgjcgaaRe6
namespace Go.Proofs.Ytneojmkccgjcgaa
open Go.RowKit

set_option maxRecDepth 100000 in
set_option maxHeartbeats 1000000 in
theorem encodes_walk (n : Nat) (hn : n < 256) (a : Value) (xs : List Int) (ec : Nat) (hec : ec < 256) (w : World) (ha : Rd w w.heap.size a (vals .i64 xs)) :
    Calls Try.prog 7 #[.int .u8 n, a, .int .u8 ec] w fun e w' => e = .returned (.bool true) ∧ Below w.heap.size w w' := by
  have hF := fld_ok n
  have h12 := fld_12 n
  have hb1 := fld_b n
  have hs3 := fld_s n
  have hs12 := s_le (fld n) h12
  obtain ⟨b1, b2, b3, b4, b5, b6⟩ := rw_bounds (fld n) (fld_16 n) ec
  have hD := rwData_lt (fld n) xs ec
  have hDl := rwData_len (fld n) xs ec
  have hW := fun l W hl => rsWords_any (fld n) hs3 h12 l xs ec W hl hec
  have ha0 := ha
  obtain ⟨A, ca, rfl, ha1, ha2, ha3⟩ := ha
  simp only [vals_len] at *
  unfold maxLen at ha2
  clear ha3
  have HA := Lib.hid ha0; clear ha0
  by_cases hbig : 2147483647 < xs.length
  · have e1 : decide ((2147483647 : Int) < (xs.length : Int)) = true := by simp; omega
    go_enter Try.func7, Try.ntmps7
    go_wp2
    go_ret
    exact ⟨rfl, brf w⟩
  · have e1 : decide ((2147483647 : Int) < (xs.length : Int)) = false := by simp; omega
    generalize rwMost (fld n) = M at *
    generalize rwData (fld n) xs ec = D at *
    generalize rwMany (fld n) ec = K at *
    have HD := Lib.hid hD; clear hD
    have HWd := Lib.hid hW; clear hW
    go_enter Try.func7, Try.ntmps7
    go_wp2_with fail
    refine (field_any n _ hn).mono ?_
    rintro e w1 ⟨rfl, hb1'⟩
    unfold fdV
    generalize fld n = F at *
    have HB1 := Lib.hid hb1'; clear hb1'
    obtain ⟨wb, hwb⟩ : ∃ wb, wb = w1.alloc (.cells #[.int .i64 F.p, .int .i64 F.s, .int .i64 F.b] 26) := ⟨_, rfl⟩
    have HBk : Hid (Blk wb w1.heap.size 26 #[.int .i64 F.p, .int .i64 F.s, .int .i64 F.b]) := Lib.hid (by rw [hwb]; exact Blk.fresh _ _ _)
    have HBb : Hid (Below w.heap.size w wb) := Lib.hid (by rw [hwb]; exact bal HB1.out _)
    have HWB := Lib.hid hwb.symm; clear hwb e1
    go_wp2_with fail
    rw [HWB.out]
    refine (HWd.out _ _ (HA.out.up HBb.out)).mono ?_
    rintro e w2 ⟨v, rfl, hv, hb2⟩
    have HV := Lib.hid hv; clear hv
    have HB2 := Lib.hid (bup HBb.out hb2)
    have HK2 := Lib.hid (HBk.out.up hb2); clear hb2
    obtain ⟨x0, x1, x2⟩ := HK2.out.three
    by_cases hpos : 0 < D.length
    · have hdt : decide (0 < D.length) = true := by simpa using hpos
      rw [hdt]
      clear hdt
      have hel := Gf.enc_len (F := F) K D
      have helt := Gf.enc_lt hF K HD.out
      have hI := fun W hw => implEncode_any F hF h12 K v D W hw HD.out hpos (by omega) (by omega) (by omega) (by omega)
      have hE := fun W hw => rsEncode_any F hF h12 hb1 v D K W hw HD.out hpos (by omega) (by omega) (by omega)
      generalize Gf.enc F K D = E at *
      have HE := Lib.hid hE; clear hE
      have HEL := Lib.hid helt; clear helt
      have HI := Lib.hid hI; clear hI
      have hel1 : 0 < E.length := by omega
      have hel2 : E.length ≤ 65536 := by omega
      clear hel
      go_wp2_with fail
      refine (HI.out _ HV.out.rd).mono ?_
      rintro e w3 ⟨v3, rfl, hv3, hb3⟩
      have HV3 := Lib.hid hv3; clear hv3
      have HVd := Lib.hid (HV.out.up hb3)
      have HB3 := Lib.hid (bup HB2.out hb3)
      have HK3 := Lib.hid (HK2.out.up hb3); clear hb3 x0 x1 x2
      obtain ⟨x0, x1, x2⟩ := HK3.out.three
      go_wp2_with fail
      refine (HE.out _ HVd.out.rd).mono ?_
      rintro e w4 ⟨v4, rfl, hv4, hb4⟩
      have HV4 := Lib.hid hv4; clear hv4
      have HB4 := Lib.hid (bup HB3.out hb4)
      have HV34 := Lib.hid (HV3.out.up hb4); clear hb4 x0 x1 x2
      go_wp2_with fail
      refine (same_any v3 v4 _ _ _ HV34.out.rd HV4.out.rd).mono ?_
      rintro e w5 ⟨rfl, hb5⟩
      rw [decide_eq_true rfl]
      have HB5 := Lib.hid (bup HB4.out hb5); clear hb5
      go_wp2
      go_ret
      exact ⟨rfl, HB5.out⟩
    · have hdt : decide (0 < D.length) = false := by simpa using hpos
      rw [hdt]
      clear hdt
      go_wp2
      go_ret
      exact ⟨rfl, HB2.out⟩
end Go.Proofs.Ytneojmkccgjcgaa
