/-
  WALKS: THE LAW of mode messages.
-/
import Derived.Test.YtibdeekgcbmofaaKh3
namespace Go.Proofs.Ytibdeekgcbmofaa
open Go.RowKit

theorem vals_uvs {l : List Int} (wf : ∀ n ∈ l, (Lit.int .u16 n).wf = true) : vals .u16 l = uvs (l.map Int.toNat) ∧ ∀ x ∈ l.map Int.toNat, x < 65536 := by
  constructor
  · unfold vals uvs
    rw [List.map_map]
    apply List.map_congr_left
    intro n hn
    have := bounds_u16 (wf n hn)
    simp only [Function.comp]
    rw [Int.toNat_of_nonneg this.1]
  · intro x hx
    obtain ⟨n, hn, rfl⟩ := List.mem_map.1 hx
    have := bounds_u16 (wf n hn)
    omega
/-- The bits that a mode message says. -/
def mBits (c : Bool) (d : Nat) : Nat := if c then d % 256 else d
theorem mBits_lt (c : Bool) (d : Nat) (hd : d < 65536) : mBits c d < 65536 ∧ mBits c d < 16 ^ mMany c := by
  cases c
  · exact ⟨hd, hd⟩
  · have : d % 256 < 256 := Nat.mod_lt _ (by decide)
    exact ⟨by show d % 256 < 65536; omega, this⟩
/-- The words, hurt, and what the decoder makes of them. -/
theorem mode_plain (c : Bool) (b : Nat) (hb : b < 16 ^ mMany c) (er : List Nat) (hl : er.length = (Gf.enc FM (mAll c - mMany c) (mwF (mMany c) b (mMany c))).length) (hx : ∀ x ∈ er, x < FM.s) (hm : (Gf.esOf FM er).length ≤ (mAll c - mMany c) / 2) :
    let ws := Gf.enc FM (mAll c - mMany c) (mwF (mMany c) b (mMany c))
    ws.length = mAll c ∧ (∀ x ∈ ws, x < 16) ∧ (Gf.xo ws er).length = mAll c ∧ (∀ x ∈ Gf.xo ws er, x < 16) ∧ Gf.rsDec FM (mAll c - mMany c) (Gf.xo ws er) = some ws ∧ joinN 0 (ws.take (mMany c)) = b := by
  intro ws
  have hN : mMany c < mAll c ∧ mAll c ≤ 10 ∧ 2 ≤ mAll c - mMany c := by cases c <;> decide
  have hdl := mwF_lt (mMany c) b (mMany c)
  have hwl : ws.length = mAll c := by
    show (Gf.enc FM _ _).length = _
    rw [Gf.enc_len, mwF_len]; omega
  have hwx : ∀ x ∈ ws, x < FM.s := Gf.enc_lt FM_ok _ hdl
  refine ⟨hwl, hwx, by rw [Gf.xo_len]; exact hwl, Gf.xo_lt ws er hwx hx, ?_, ?_⟩
  · exact Gf.rsDec_ok FM_ok (by omega) (by decide) hl.symm (by rw [hl]; show ws.length ≤ 15; omega) hwx hx (fun i hi => Gf.enc_root FM_ok hdl hi) (by omega)
  · have e : ws.take (mMany c) = mwF (mMany c) b (mMany c) := by
      show (Gf.enc FM _ _).take _ = _
      unfold Gf.enc
      exact List.take_left' (mwF_len _ _ _)
    rw [e, joinN_mw b (mMany c) (mMany c) (Nat.le_refl _) hb, Nat.sub_self, Nat.mul_zero, Nat.pow_zero, Nat.div_one]

set_option maxRecDepth 100000 in
set_option maxHeartbeats 4000000 in
theorem mode_walk (d : Nat) (hd : d < 65536) (c : Bool) (va vb : Value) (la lb : List Int) (w : World) (ha : Rd w w.heap.size va (vals .u16 la)) (wfa : ∀ n ∈ la, (Lit.int .u16 n).wf = true) (hb : Rd w w.heap.size vb (vals .u16 lb)) (wfb : ∀ n ∈ lb, (Lit.int .u16 n).wf = true) :
    Calls Try.prog 3 #[.int .u16 d, .bool c, va, vb] w fun e w' => e = .returned (.bool true) ∧ Below w.heap.size w w' := by
  obtain ⟨ea, ba⟩ := vals_uvs wfa
  obtain ⟨eb, bb⟩ := vals_uvs wfb
  rw [ea] at ha
  rw [eb] at hb
  clear ea eb wfa wfb
  generalize la.map Int.toNat = at_ at *
  generalize lb.map Int.toNat = by_ at *
  have HA := Lib.hid ha
  have HB := Lib.hid hb
  obtain ⟨A1, c1, rfl, a1, a2, a3⟩ := ha
  obtain ⟨A2, c2, rfl, b1, b2, b3⟩ := hb
  simp only [uvs_len] at *
  clear a3 b3
  unfold maxLen at a2 b2
  by_cases hbig : 2147483647 < at_.length
  · have e1 : decide ((2147483647 : Int) < (at_.length : Int)) = true := by simp; omega
    go_enter Try.func3, Try.ntmps3
    go_wp2
    go_ret
    exact ⟨rfl, brf w⟩
  · have e1 : decide ((2147483647 : Int) < (at_.length : Int)) = false := by simp; omega
    by_cases hbig2 : 2147483647 < by_.length
    · have e2 : decide ((2147483647 : Int) < (by_.length : Int)) = true := by simp; omega
      go_enter Try.func3, Try.ntmps3
      go_wp2
      go_ret
      exact ⟨rfl, brf w⟩
    · have e2 : decide ((2147483647 : Int) < (by_.length : Int)) = false := by simp; omega
      obtain ⟨m1, m2⟩ := mBits_lt c d hd
      have hpl := mode_plain c (mBits c d) m2
      have hmw := fun W => modeWords_any c (mBits c d) m1 W
      have hmo := fun W => mostWrong_any c W
      have hN : mMany c < mAll c ∧ mAll c ≤ 10 ∧ 2 ≤ mAll c - mMany c := by cases c <;> decide
      have h7 : (Gf.enc FM (mAll c - mMany c) (mwF (mMany c) (mBits c d) (mMany c))).length = mAll c := by
        rw [Gf.enc_len, mwF_len]; omega
      have h8 : ∀ x ∈ Gf.enc FM (mAll c - mMany c) (mwF (mMany c) (mBits c d) (mMany c)), x < FM.s := Gf.enc_lt FM_ok _ (mwF_lt _ _ _)
      have hmd := fun l ws W => azMode_any c l ws W
      have hbi : c = true → bits .and .i64 (d : Int) 255 = ((mBits c d : Nat) : Int) := fun hc => by
        have h1 : bits .and .i64 (d : Int) 255 = ((d &&& 255 : Nat) : Int) := i64_and d 255 (by omega) (by decide)
        rw [h1, hc]
        congr 1
        exact Nat.and_two_pow_sub_one_eq_mod _ 8
      have hbn : c = false → d = mBits c d := fun hc => by rw [hc]; rfl
      generalize Gf.enc FM (mAll c - mMany c) (mwF (mMany c) (mBits c d) (mMany c)) = ws at *
      generalize mBits c d = b at *
      have hhu := fun vl W (h : Rd W W.heap.size vl (nv ws)) (h1 : Rd W W.heap.size (.slice A1 at_.length c1) (uvs at_)) (h2 : Rd W W.heap.size (.slice A2 by_.length c2) (uvs by_)) =>
        (show Calls Try.prog 4 #[.agg #[.int .i64 19, .int .i64 16, .int .i64 1], vl, .slice A1 at_.length c1, .slice A2 by_.length c2, .int .i64 (((mAll c - mMany c) / 2 : Nat) : Int)] W fun e w' => ∃ v er, e = .returned v ∧ er.length = ws.length ∧ (∀ x ∈ er, x < FM.s) ∧ (Gf.esOf FM er).length ≤ (mAll c - mMany c) / 2 ∧ RdT w' 3 v (nv (Gf.xo ws er)) ∧ Below W.heap.size W w' from
          hurt_any FM (by decide) (by decide) vl _ _ ws at_ by_ ((mAll c - mMany c) / 2) W h h1 h2 h8 ba bb (by omega) (by omega) (by omega))
      obtain ⟨mo, hmoe⟩ : ∃ mo, mo = (mAll c - mMany c) / 2 := ⟨_, rfl⟩
      rw [← hmoe] at hpl hmo hhu
      obtain ⟨N, hNe⟩ : ∃ N, N = mAll c := ⟨_, rfl⟩
      rw [← hNe] at hpl hN h7
      have HPL := Lib.hid hpl
      have HMW := Lib.hid hmw
      have HMO := Lib.hid hmo
      have HHU := Lib.hid hhu
      have HMD := Lib.hid hmd
      have HN := Lib.hid hNe
      have hN10 := hN.2.1
      clear hpl hmw hmo hhu hmd hmoe hNe hN ba bb
      have key : Calls Try.prog 3 #[.int .u16 d, .bool c, .slice A1 at_.length c1, .slice A2 by_.length c2] w fun e w' => e = .returned (.bool true) ∧ Below w.heap.size w w' := by
        cases c
        · obtain rfl : d = b := hbn rfl
          clear hbi hbn
          go_enter Try.func3, Try.ntmps3
          go_wp2_with fail
          refine (mField_any w).mono ?_
          rintro e w1 ⟨rfl, hb1⟩
          have HB1 := Lib.hid hb1; clear hb1
          go_wp2_with fail
          refine (HMW.out w1).mono ?_
          rintro e w2 ⟨vw, rfl, hvw, hb2⟩
          have HB2 := Lib.hid (bup HB1.out hb2); clear hb2
          have HVW := Lib.hid hvw; clear hvw
          go_wp2_with fail
          refine (HMO.out w2).mono ?_
          rintro e w2 ⟨rfl, rfl⟩
          go_wp2_with fail
          refine (HHU.out vw w2 HVW.out.rd (HA.out.up HB2.out) (HB.out.up HB2.out)).mono ?_
          rintro e w3 ⟨vl, er, rfl, q1, q2, q3, hvl, hb3⟩
          obtain ⟨p1, p2, p3, p4, p5, p6⟩ := HPL.out er q1 q2 q3
          have HB3 := Lib.hid (bup HB2.out hb3); clear hb3
          have HVL := Lib.hid hvl
          have hj := fun W => HMD.out (Gf.xo ws er) ws W (by rw [p3]; exact HN.out) p4 (by rw [← HN.out]; exact p5) (by rw [p1]; exact HN.out) p2
          rw [p6] at hj
          have HJ := Lib.hid hj
          have hjo := fun W h => joined_any vl (Gf.xo ws er) W h p4 (by rw [p3]; exact hN10)
          have HJO := Lib.hid hjo
          clear hj hjo q1 q2 q3 p1 p2 p3 p4 p5 p6 hvl
          generalize joinN 0 (Gf.xo ws er) = J at *
          go_wp2_with fail
          refine (HJO.out w3 HVL.out.rd).mono ?_
          rintro e w4 ⟨rfl, hb4⟩
          have HB4 := Lib.hid (bup HB3.out hb4); clear hb4
          go_wp2_with fail
          refine (HJ.out w4).mono ?_
          rintro e w5 ⟨rfl, hb5⟩
          go_wp2
          go_ret
          exact ⟨by simp, bup HB4.out hb5⟩
        · have hbi2 := hbi rfl
          clear hbi hbn
          go_enter Try.func3, Try.ntmps3
          go_wp2_with fail
          refine (mField_any w).mono ?_
          rintro e w1 ⟨rfl, hb1⟩
          have HB1 := Lib.hid hb1; clear hb1
          go_wp2_with fail
          refine (HMW.out w1).mono ?_
          rintro e w2 ⟨vw, rfl, hvw, hb2⟩
          have HB2 := Lib.hid (bup HB1.out hb2); clear hb2
          have HVW := Lib.hid hvw; clear hvw
          go_wp2_with fail
          refine (HMO.out w2).mono ?_
          rintro e w2 ⟨rfl, rfl⟩
          go_wp2_with fail
          refine (HHU.out vw w2 HVW.out.rd (HA.out.up HB2.out) (HB.out.up HB2.out)).mono ?_
          rintro e w3 ⟨vl, er, rfl, q1, q2, q3, hvl, hb3⟩
          obtain ⟨p1, p2, p3, p4, p5, p6⟩ := HPL.out er q1 q2 q3
          have HB3 := Lib.hid (bup HB2.out hb3); clear hb3
          have HVL := Lib.hid hvl
          have hj := fun W => HMD.out (Gf.xo ws er) ws W (by rw [p3]; exact HN.out) p4 (by rw [← HN.out]; exact p5) (by rw [p1]; exact HN.out) p2
          rw [p6] at hj
          have HJ := Lib.hid hj
          have hjo := fun W h => joined_any vl (Gf.xo ws er) W h p4 (by rw [p3]; exact hN10)
          have HJO := Lib.hid hjo
          clear hj hjo q1 q2 q3 p1 p2 p3 p4 p5 p6 hvl
          generalize joinN 0 (Gf.xo ws er) = J at *
          go_wp2_with fail
          refine (HJO.out w3 HVL.out.rd).mono ?_
          rintro e w4 ⟨rfl, hb4⟩
          have HB4 := Lib.hid (bup HB3.out hb4); clear hb4
          go_wp2_with fail
          refine (HJ.out w4).mono ?_
          rintro e w5 ⟨rfl, hb5⟩
          go_wp2
          go_ret
          exact ⟨by simp, bup HB4.out hb5⟩
      exact key
end Go.Proofs.Ytibdeekgcbmofaa
