/-
  THE WALK OF THE LAW FnAZCorrects.
-/
import Derived.Test.YtopfdmmimgnciaaGreatDoorW13
import Derived.Test.YtopfdmmimgnciaaGreatDoorW33
import Derived.Test.YtopfdmmimgnciaaGreatDoorW36
import Derived.Test.YtopfdmmimgnciaaGreatDoorW37
namespace Go.Proofs.YtopfdmmimgnciaaGreatDoor
open Go.RowKit

theorem vals_uvsZ {l : List Int} (wf : ∀ n ∈ l, (Lit.int .u16 n).wf = true) : vals .u16 l = uvs (l.map Int.toNat) ∧ ∀ x ∈ l.map Int.toNat, x < 65536 := by
  constructor
  · unfold vals uvs
    rw [List.map_map]
    apply List.map_congr_left
    intro n hn
    have := bounds_u16 (wf n hn)
    simp only [Function.comp]
    rw [Int.toNat_of_nonneg this.1]
  · intro x hx
    obtain ⟨n, hn, rfl⟩ := List.mem_map.1 hx
    have := bounds_u16 (wf n hn)
    omega
theorem vals_nbZ {l : List Int} (wf : ∀ n ∈ l, (Lit.int .u8 n).wf = true) : vals .u8 l = nb (l.map Int.toNat) ∧ ∀ x ∈ l.map Int.toNat, x < 256 := by
  constructor
  · unfold vals nb
    rw [List.map_map]
    apply List.map_congr_left
    intro n hn
    have := bounds_u8 (wf n hn)
    simp only [Function.comp]
    rw [Int.toNat_of_nonneg this.1]
  · intro x hx
    obtain ⟨n, hn, rfl⟩ := List.mem_map.1 hx
    have := bounds_u8 (wf n hn)
    omega
theorem layZ_any (c : Bool) (L : Nat) (v : Value) (ws : List Nat) (w : World) (hv : Rd w w.heap.size v (nv ws)) (hws : ws.length = capN c L / widN L) (hlt : ∀ x ∈ ws, x < 2 ^ widN L) (hL1 : 1 ≤ L) (hL : L ≤ 32) :
    Calls Tryz.prog 11 #[v, .bool c, .int .i64 L] w fun e w' => ∃ u G, e = .returned u ∧ RowsT w' u (rowsF (wholeN c L) (wholeN c L) G) ∧ takU c L G L = List.replicate (capN c L % widN L) false ++ wbits (widN L) ws ∧ Below w.heap.size w w' := by
  cases c
  · exact lay_full L v ws w hv hws hlt hL1 hL
  · exact lay_compact L v ws w hv hws hlt hL1 hL
theorem bitOf_rowsZ (W H : Nat) (f : Nat → Nat → Bool) (x y : Nat) (hx : x < W) (hy : y < H) : bitOf (rowsF W H f) x y = f x y := by
  unfold bitOf
  rw [rowsF_at _ _ _ _ hy, List.getD, List.getElem?_eq_getElem (by rw [rowF_len]; exact hx)]
  simp [rowF_at]
theorem rowsF_lenZ (W H : Nat) (f : Nat → Nat → Bool) : ∀ r ∈ rowsF W H f, r.length = W := fun r hr => by
  unfold rowsF at hr
  obtain ⟨y, _, rfl⟩ := List.mem_map.1 hr
  simp
/-- The words of a symbol that are hurt, mended. -/
theorem hurt_plain (c : Bool) (L : Nat) (h1 : 1 ≤ L) (h2 : L ≤ 32) (code : List Nat) (k1 : 0 < (dataN L code).length) (k2 : (dataN L code).length + 2 ≤ capN c L / widN L) :
    let ws := Gf.enc (fdL L) (capN c L / widN L - (dataN L code).length) (dataN L code)
    ws.length = capN c L / widN L ∧ (∀ x ∈ ws, x < (fdL L).s) ∧ ∀ er, er.length = ws.length → (∀ x ∈ er, x < (fdL L).s) → (Gf.esOf (fdL L) er).length ≤ (ws.length - (dataN L code).length) / 2 →
      (Gf.xo ws er).length = ws.length ∧ (∀ x ∈ Gf.xo ws er, x < 2 ^ widN L) ∧ CorHurt (widN L) (fdL L) (Gf.xo ws er) ws (dataN L code).length ∧ ∃ g, dec g (unL (widN L) (ws.take (dataN L code).length)) 0 0 = some (wAll 150 code 0).2.2 := by
  intro ws
  obtain ⟨f1, f2, f3, f4⟩ := fdL_facts L
  have f5 := fdL_s L
  obtain ⟨c1, c2, c3, c4⟩ := capN_all L (by omega) h1 c (by cases c <;> simp)
  have hwd := widN_le L
  obtain ⟨⟨kk, hkk, hun⟩, hdx⟩ := dataN_ok L code
  have hDF : ∀ x ∈ dataN L code, x < (fdL L).s := fun x hx => by have := hdx x hx; rw [f5]; omega
  have hwl : ws.length = capN c L / widN L := by show (Gf.enc _ _ _).length = _; rw [Gf.enc_len]; omega
  have hwx : ∀ x ∈ ws, x < (fdL L).s := Gf.enc_lt f1 _ hDF
  have hwt : ws.take (dataN L code).length = dataN L code := by show (Gf.enc _ _ _).take _ = _; unfold Gf.enc; rw [List.take_left]
  refine ⟨hwl, hwx, fun er hl hx hm => ?_⟩
  have hxl : (Gf.xo ws er).length = ws.length := Gf.xo_len ws er
  have hxx := Gf.xo_lt ws er hwx hx
  refine ⟨hxl, fun x hx9 => by rw [← f5]; exact hxx x hx9, ⟨f1, f4, f3, f5, hxx, hwx, hxl, k1, by omega, by omega, by rw [hwl, f5]; exact c1, by omega, ?_, fun i hi => ?_⟩, ?_⟩
  · refine Gf.rsDec_ok f1 (by omega) (by omega) hl.symm (by rw [hl, hwl, f5]; omega) hwx hx (fun i hi => Gf.enc_root f1 hDF (by rw [hwl] at hi; exact hi)) (by omega)
  · have h9 : ws.getD i 0 = (dataN L code).getD i 0 := by
      have e9 : ws[i]? = (ws.take (dataN L code).length)[i]? := (List.getElem?_take_of_lt hi).symm
      rw [List.getD, e9, hwt]; rfl
    have h8 : (dataN L code).getD i 0 = (dataN L code)[i] := by rw [List.getD, List.getElem?_eq_getElem hi]; rfl
    rw [h9, h8]
    exact hdx _ (List.getElem_mem hi)
  · rw [hwt, hun]
    exact message_says 150 code (by omega)
set_option maxRecDepth 100000 in
set_option maxHeartbeats 8000000 in
theorem corrects_walk (v0 va vb : Value) (l : List Int) (c : Bool) (n : Nat) (hn : n < 256) (la lb : List Int) (w : World) (h0 : Rd w w.heap.size v0 (vals .u8 l)) (wf0 : ∀ n ∈ l, (Lit.int .u8 n).wf = true)
    (ha : Rd w w.heap.size va (vals .u16 la)) (wfa : ∀ n ∈ la, (Lit.int .u16 n).wf = true) (hb : Rd w w.heap.size vb (vals .u16 lb)) (wfb : ∀ n ∈ lb, (Lit.int .u16 n).wf = true) :
    Calls Tryz.prog 3 #[v0, .bool c, .int .u8 n, va, vb] w fun e w' => e = .returned (.bool true) ∧ Below w.heap.size w w' := by
  obtain ⟨e0, b0⟩ := vals_nbZ wf0
  obtain ⟨ea, ba⟩ := vals_uvsZ wfa
  obtain ⟨eb, bb⟩ := vals_uvsZ wfb
  rw [e0] at h0
  rw [ea] at ha
  rw [eb] at hb
  clear e0 ea eb wf0 wfa wfb
  generalize l.map Int.toNat = code at *
  generalize la.map Int.toNat = at_ at *
  generalize lb.map Int.toNat = by_ at *
  have H0 := Lib.hid h0
  have HA := Lib.hid ha
  have HB := Lib.hid hb
  obtain ⟨A0, c0, rfl, x1, x2, -⟩ := h0
  obtain ⟨A1, c1, rfl, a1, a2, -⟩ := ha
  obtain ⟨A2, c2, rfl, b1, b2, -⟩ := hb
  rw [nb_len] at *
  simp only [uvs_len] at *
  unfold maxLen at x2 a2 b2
  have small : ∀ m : Nat, 2147483647 < m → decide ((2147483647 : Int) < (m : Int)) = true := fun m h => decide_eq_true (by omega)
  have large : ∀ m : Nat, ¬ 2147483647 < m → decide ((2147483647 : Int) < (m : Int)) = false := fun m h => decide_eq_false (by omega)
  by_cases hbig0 : 2147483647 < code.length
  · have e1 := small _ hbig0
    clear small large
    go_enter Tryz.func3, Tryz.ntmps3
    go_wp2
    go_ret
    exact ⟨rfl, brf w⟩
  have d0 := large _ hbig0
  by_cases hbig1 : 2147483647 < at_.length
  · have e1 := small _ hbig1
    clear small large
    go_enter Tryz.func3, Tryz.ntmps3
    go_wp2
    go_ret
    exact ⟨rfl, brf w⟩
  have d1 := large _ hbig1
  by_cases hbig2 : 2147483647 < by_.length
  · have e1 := small _ hbig2
    clear small large
    go_enter Tryz.func3, Tryz.ntmps3
    go_wp2
    go_ret
    exact ⟨rfl, brf w⟩
  have d2 := large _ hbig2
  clear small large
  have hly := layers_any c n w hn
  obtain ⟨L1, L2⟩ := layN_le c n
  obtain ⟨L, hLe⟩ : ∃ L, L = layN c n := ⟨_, rfl⟩
  rw [← hLe] at hly L1 L2
  clear hLe
  have hsy := fun wq h => symbol_any (.slice A0 code.length c0) code c L wq h b0 L1 L2
  have hpl := fun k1 k2 => hurt_plain c L L1 L2 code k1 k2
  have hwd := fun wq => azWidth_any L wq L2
  have hfd := fun wq => azField_any L wq
  obtain ⟨f1, f2, f3, f4⟩ := fdL_facts L
  have f5 := fdL_s L
  have hcap := capN_all L (by omega) L1 c (by cases c <;> simp)
  have hdl := dataN_len L code
  have hW6 := widN_le L
  have hlay := fun v ws wq h1 h2 h3 => layZ_any c L v ws wq h1 h2 h3 L1 L2
  have hde := fun v rows pre E0 E final wq h1 h2 h3 h4 h5 h6 h7 => azDecodeZ_any c L (dataN L code).length v rows pre E0 E final wq h1 h2 h3 L1 L2 h4 h5 h6 h7
  have hhu := fun vl wsx most wq h1 h2 h3 h4 h5 h6 h7 => hurt_any (fdL L) f4 (by rw [f5]; exact Nat.le_trans (by decide) (Nat.pow_le_pow_right (n := 2) (by decide) hW6.1)) vl (.slice A1 at_.length c1) (.slice A2 by_.length c2) wsx at_ by_ most wq h1 h2 h3 h4 ba bb h5 h6 h7
  have HSY := Lib.hid hsy
  have HPL := Lib.hid hpl
  have HWD := Lib.hid hwd
  have HFD := Lib.hid hfd
  have HLAY := Lib.hid hlay
  have HDE := Lib.hid hde
  have HHU := Lib.hid hhu
  have HCAP := Lib.hid hcap
  obtain ⟨many, hmany⟩ : ∃ m, m = (dataN L code).length := ⟨_, rfl⟩
  clear hsy hpl hwd hfd hlay hde hhu f1 f2 f3 f4 f5 hcap
  go_enter Tryz.func3, Tryz.ntmps3
  go_wp2_with fail
  refine hly.mono ?_
  rintro e w1 ⟨rfl, hw1⟩
  subst hw1
  clear hly
  go_wp2_with fail
  refine (HSY.out _ H0.out).mono ?_
  rintro e w2 ⟨u, b, rfl, hb2, hif⟩
  cases b
  · have HF := Lib.hid hb2
    clear HSY hb2 hif
    go_wp2_with fail
    go_ret
    exact ⟨rfl, HF.out⟩
  · obtain ⟨k1, k2, hu⟩ := hif rfl
    obtain ⟨p1, p2, p3⟩ := HPL.out k1 k2
    have HP3 := Lib.hid p3
    have HB2 := Lib.hid hb2
    have HU := Lib.hid hu.rd
    obtain ⟨Au, cu, rfl, -, -⟩ := hu.rd.form
    rw [nv_len] at hu HU ⊢
    clear hu hif p3 HPL
    generalize Gf.enc (fdL L) (capN c L / widN L - (dataN L code).length) (dataN L code) = ws at *
    rw [← hmany] at k1 k2 HP3 HDE ⊢
    clear hmany HSY
    generalize (wAll 150 code 0).2.2 = txt at *
    obtain ⟨mo, hmo⟩ : ∃ m, m = (ws.length - many) / 2 := ⟨_, rfl⟩
    rw [← hmo] at HP3
    have hcap := HCAP.out
    have g1 : many + 2 ≤ ws.length := by rw [p1]; exact k2
    have g2 : ws.length ≤ 1664 := by rw [p1]; exact hcap.2.2.1
    have e1 : Int.tdiv ((ws.length : Int) - (many : Int)) 2 = (mo : Int) := by rw [Int.tdiv_eq_ediv_of_nonneg (by omega)]; omega
    have e2 : ((ws.length : Int) - (many : Int)) / 2 = (mo : Int) := by omega
    have hmo2 : mo ≤ 4096 := by omega
    have P1 := Lib.hid p1
    have P2 := Lib.hid p2
    obtain ⟨K, hK⟩ : ∃ K, K = ws.length := ⟨_, rfl⟩
    rw [← hK] at HU g1 g2 e1 e2 ⊢
    have HK := Lib.hid hK
    clear hK hmo hcap p1 p2 k2
    have nK : ¬ (K = 0) := by omega
    go_wp2_with fail
    refine (HWD.out _).mono ?_
    rintro e w2 ⟨rfl, rfl⟩
    clear HWD
    go_wp2_with fail
    refine (HFD.out _).mono ?_
    rintro e w3 ⟨rfl, hb3⟩
    have HU3 := Lib.hid (HU.out.up hb3)
    have HB3 := Lib.hid (bup HB2.out hb3)
    clear hb3 HFD HU HB2
    go_wp2_with fail
    refine (HHU.out _ ws mo w3 HU3.out (HA.out.up HB3.out) (HB.out.up HB3.out) P2.out (by rw [← HK.out]; omega) (by rw [← HK.out]; omega) hmo2).mono ?_
    rintro e w4 ⟨v4, er, rfl, q1, q2, q3, hv4, hb4⟩
    obtain ⟨r1, r2, r3, r4⟩ := HP3.out er q1 q2 q3
    have hly := HLAY.out v4 (Gf.xo ws er) w4 hv4.rd (by rw [r1]; exact P1.out) r2
    have HB4 := Lib.hid (bup HB3.out hb4)
    have HR34 := Lib.hid (And.intro r3 r4)
    have HLY := Lib.hid hly
    generalize Gf.xo ws er = E0 at *
    clear hb4 HHU HB3 HU3 HLAY hly r1 r2 r3 r4 q1 q2 q3 hv4 e1 e2
    go_wp2_with fail
    refine HLY.out.mono ?_
    rintro e w5 ⟨u5, G, rfl, hrow, htak, hb5⟩
    have hwl := wholeN_le c L L2
    have HB5 := Lib.hid (bup HB4.out hb5)
    have hde := HDE.out u5 (rowsF (wholeN c L) (wholeN c L) G) (List.replicate (capN c L % widN L) false) E0 ws txt w5 hrow (rowsF_len _ _ _) (rowsF_lenZ _ _ _) HR34.out.1
      (by rw [List.length_replicate]; exact Nat.mod_lt _ (by omega))
      (by rw [← htak]; exact takU_congr c L _ _ (fun x y hx hy => bitOf_rowsZ _ _ _ x y hx hy)) HR34.out.2
    obtain ⟨b5, o5, c5, rfl, -, -, -⟩ := hrow.at_ (by rw [rowsF_len]; omega)
    rw [rowsF_len] at hde ⊢
    have HDE5 := Lib.hid hde
    clear hde hb5 HDE HLY HB4 hrow htak
    go_wp2_with fail
    refine HDE5.out.mono ?_
    rintro e w6 ⟨s2, A6, l6, c6, rfl, hb6⟩
    have HB6 := Lib.hid (bup HB5.out hb6)
    clear hb6 HDE5 HB5
    unfold impZ
    go_wp2_with fail
    go_ret
    exact ⟨rfl, bal HB6.out _⟩
end Go.Proofs.YtopfdmmimgnciaaGreatDoor
