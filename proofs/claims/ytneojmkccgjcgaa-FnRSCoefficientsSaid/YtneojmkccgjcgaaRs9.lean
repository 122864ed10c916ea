/-
  THE LAW of coefficients, walked.
-/
import Derived.Test.YtneojmkccgjcgaaRs8
namespace Go.Proofs.Ytneojmkccgjcgaa
open Go.RowKit

theorem coefficients_walk (n : Nat) (hn : n < 256) (l : Value) (xs : List Int) (m : Nat) (hm : m < 256) (w : World) (hl : Rd w w.heap.size l (vals .i64 xs)) :
    Calls Try.prog 5 #[.int .u8 n, l, .int .u8 m] w fun e w' => e = .returned (.bool true) ∧ Below w.heap.size w w' := by
  have hF := fld_ok n
  have h12 := fld_12 n
  have hs12 := s_le (fld n) h12
  have ht := polyOf_tidy (fld n) xs 60
  have hlen := polyOf_len (fld n) xs 60 (by decide)
  have hpos : 0 < (polyOf (fld n) xs 60).length := by
    rcases h : polyOf (fld n) xs 60 with _ | ⟨x, r⟩
    · exact absurd h ht.1
    · simp
  have hl0 := hl
  obtain ⟨A, ca, rfl, ha1, ha2, ha3⟩ := hl
  simp only [vals_len] at *
  unfold maxLen at ha2
  clear ha3
  have HL := Lib.hid hl0; clear hl0
  by_cases hbig : 2147483647 < xs.length
  · have e1 : decide ((2147483647 : Int) < (xs.length : Int)) = true := by simp; omega
    go_enter Try.func5, Try.ntmps5
    go_wp2
    go_ret
    exact ⟨rfl, brf w⟩
  · have e1 : decide ((2147483647 : Int) < (xs.length : Int)) = false := by simp; omega
    go_enter Try.func5, Try.ntmps5
    go_wp2_with fail
    refine (field_any n _ hn).mono ?_
    rintro e w1 ⟨rfl, hb1⟩
    unfold fdV
    generalize fld n = F at *
    go_wp2_with fail
    refine (rsPoly_any F hs12 _ xs 60 _ (HL.out.up (bal hb1 _)) (by decide)).mono ?_
    rintro e w2 ⟨v, rfl, hv, hb2⟩
    have X2 := (Blk.fresh w1 26 #[.int .i64 F.p, .int .i64 F.s, .int .i64 F.b]).up hb2
    obtain ⟨x0, x1, x2⟩ := X2.three
    clear X2
    generalize polyOf F xs 60 = ys at *
    have hk : m % ys.length < ys.length := Nat.mod_lt _ hpos
    have hv0 := hv
    obtain ⟨A2, c2, rfl, hc1, hc2, hc3⟩ := hv.rd
    simp only [nv_len] at *
    unfold maxLen at hc2
    obtain ⟨b2, o2, rfl, hlt2, hcell⟩ := hc3 hpos
    have c3 := hcell (ys.length - 1 - m % ys.length) _ (nv_at ys _ (by omega))
    have hg : ys.getD (ys.length - 1 - m % ys.length) 0 = ys[ys.length - 1 - m % ys.length]'(by omega) := getD_lt _ _ _ (by omega)
    have HV := Lib.hid hv0; clear hv0
    have HG := Lib.hid hg; clear hg
    clear hcell hc3 hv
    have hmi : (m : Int) % (ys.length : Int) = ((m % ys.length : Nat) : Int) := by simp
    generalize ys[ys.length - 1 - m % ys.length]'(by omega) = r at *
    have HK := Lib.hid hmi; clear hmi
    go_wp2_with fail
    rw [HK.out]
    refine (polyCoefficient_any F hF h12 _ ys _ _ HV.out.rd ht (by omega) hk).mono ?_
    rintro e w3 ⟨rfl, hb3⟩
    rw [HG.out]
    generalize m % ys.length = k at *
    have c4 := cell_up c3 hb3
    have hidx : ((ys.length : Int) - 1 - (k : Int)).toNat = ys.length - 1 - k := by omega
    clear x0 x1 x2 c3 e1
    go_wp2
    go_ret
    exact ⟨rfl, bup (bup (bal hb1 _) hb2) hb3⟩
end Go.Proofs.Ytneojmkccgjcgaa
