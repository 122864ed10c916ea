/-
  THE WALK OF THE LAW FnAZDecodes.
-/
import Derived.Test.YtopfdmmimgnciaaGreatDoorV38
import Derived.Test.YtopfdmmimgnciaaGreatDoorV47
namespace Go.Proofs.YtopfdmmimgnciaaGreatDoor
open Go.RowKit

/-- The words of a symbol, whatever is put into them. -/
theorem any_plain (c : Bool) (L : Nat) (h1 : 1 ≤ L) (h2 : L ≤ 32) (code : List Nat) (k2 : (dataN L code).length + 2 ≤ capN c L / widN L) :
    let ws := Gf.enc (fdL L) (capN c L / widN L - (dataN L code).length) (dataN L code)
    ws.length = capN c L / widN L ∧ (∀ x ∈ ws, x < (fdL L).s) ∧ ∀ er, er.length = ws.length → (∀ x ∈ er, x < (fdL L).s) →
      (Gf.xo ws er).length = ws.length ∧ (∀ x ∈ Gf.xo ws er, x < 2 ^ widN L) ∧ ∀ Dn, 0 < Dn → Dn + 2 ≤ ws.length → CorAny (widN L) (fdL L) (Gf.xo ws er) Dn := by
  intro ws
  obtain ⟨f1, f2, f3, f4⟩ := fdL_facts L
  have f5 := fdL_s L
  obtain ⟨c1, c2, c3, c4⟩ := capN_all L (by omega) h1 c (by cases c <;> simp)
  have hwd := widN_le L
  obtain ⟨-, hdx⟩ := dataN_ok L code
  have hDF : ∀ x ∈ dataN L code, x < (fdL L).s := fun x hx => by have := hdx x hx; rw [f5]; omega
  have hwl : ws.length = capN c L / widN L := by show (Gf.enc _ _ _).length = _; rw [Gf.enc_len]; omega
  have hwx : ∀ x ∈ ws, x < (fdL L).s := Gf.enc_lt f1 _ hDF
  refine ⟨hwl, hwx, fun er hl hx => ?_⟩
  have hxl : (Gf.xo ws er).length = ws.length := Gf.xo_len ws er
  have hxx := Gf.xo_lt ws er hwx hx
  exact ⟨hxl, fun x hx9 => by rw [← f5]; exact hxx x hx9, fun Dn d1 d2 => ⟨f1, f4, f3, f5, hxx, d1, by omega, by omega, by rw [hxl, hwl, f5]; exact c1, by omega⟩⟩
theorem byteZ_lt (l : List Bool) (i : Nat) : byteZ l i < 256 := Nat.mod_lt _ (by decide)
/-- Bytes as a string. -/
theorem wv8_bytes (l : List Nat) (h : ∀ x ∈ l, x < 256) : wv8 l = bl (l.map UInt8.ofNat) := by
  unfold wv8 bl
  rw [List.map_map]
  refine List.map_congr_left fun x hx => ?_
  have := h x hx
  simp only [Function.comp]
  congr 2
  simp; omega
theorem bytesZ_lt (l : List Bool) : ∀ x ∈ bytesZ l, x < 256 := fun x hx => by
  obtain ⟨i, _, rfl⟩ := List.mem_map.1 hx
  exact byteZ_lt _ _
set_option maxRecDepth 100000 in
set_option maxHeartbeats 8000000 in
theorem decodes_walk (v0 va vb : Value) (l : List Int) (c : Bool) (n : Nat) (hn : n < 256) (la lb : List Int) (wd : Nat) (hwd9 : wd < 65536) (w : World) (h0 : Rd w w.heap.size v0 (vals .u8 l)) (wf0 : ∀ n ∈ l, (Lit.int .u8 n).wf = true)
    (ha : Rd w w.heap.size va (vals .u16 la)) (wfa : ∀ n ∈ la, (Lit.int .u16 n).wf = true) (hb : Rd w w.heap.size vb (vals .u16 lb)) (wfb : ∀ n ∈ lb, (Lit.int .u16 n).wf = true) :
    Calls Tryz.prog 4 #[v0, .bool c, .int .u8 n, va, vb, .int .u16 wd] w fun e w' => e = .returned (.bool true) ∧ Below w.heap.size w w' := by
  obtain ⟨e0, b0⟩ := vals_nbZ wf0
  obtain ⟨ea, ba⟩ := vals_uvsZ wfa
  obtain ⟨eb, bb⟩ := vals_uvsZ wfb
  rw [e0] at h0
  rw [ea] at ha
  rw [eb] at hb
  clear e0 ea eb wf0 wfa wfb
  generalize l.map Int.toNat = code at *
  generalize la.map Int.toNat = at_ at *
  generalize lb.map Int.toNat = by_ at *
  have H0 := Lib.hid h0
  have HA := Lib.hid ha
  have HB := Lib.hid hb
  obtain ⟨A0, c0, rfl, x1, x2, -⟩ := h0
  obtain ⟨A1, c1, rfl, a1, a2, -⟩ := ha
  obtain ⟨A2, c2, rfl, b1, b2, -⟩ := hb
  rw [nb_len] at *
  simp only [uvs_len] at *
  unfold maxLen at x2 a2 b2
  have small : ∀ m : Nat, 2147483647 < m → decide ((2147483647 : Int) < (m : Int)) = true := fun m h => decide_eq_true (by omega)
  have large : ∀ m : Nat, ¬ 2147483647 < m → decide ((2147483647 : Int) < (m : Int)) = false := fun m h => decide_eq_false (by omega)
  by_cases hbig0 : 2147483647 < code.length
  · have e1 := small _ hbig0
    clear small large
    go_enter Tryz.func4, Tryz.ntmps4
    go_wp2
    go_ret
    exact ⟨rfl, brf w⟩
  have d0 := large _ hbig0
  by_cases hbig1 : 2147483647 < at_.length
  · have e1 := small _ hbig1
    clear small large
    go_enter Tryz.func4, Tryz.ntmps4
    go_wp2
    go_ret
    exact ⟨rfl, brf w⟩
  have d1 := large _ hbig1
  by_cases hbig2 : 2147483647 < by_.length
  · have e1 := small _ hbig2
    clear small large
    go_enter Tryz.func4, Tryz.ntmps4
    go_wp2
    go_ret
    exact ⟨rfl, brf w⟩
  have d2 := large _ hbig2
  clear small large
  have hly := layers_any c n w hn
  obtain ⟨L1, L2⟩ := layN_le c n
  obtain ⟨L, hLe⟩ : ∃ L, L = layN c n := ⟨_, rfl⟩
  rw [← hLe] at hly L1 L2
  clear hLe
  have hsy := fun wq h => symbol_any (.slice A0 code.length c0) code c L wq h b0 L1 L2
  have hpl := fun k2 => any_plain c L L1 L2 code k2
  have hwd := fun wq => azWidth_any L wq L2
  have hfd := fun wq => azField_any L wq
  obtain ⟨f1, f2, f3, f4⟩ := fdL_facts L
  have f5 := fdL_s L
  have hcap := capN_all L (by omega) L1 c (by cases c <;> simp)
  have hdl := dataN_len L code
  have hW6 := widN_le L
  have hlay := fun v ws wq h1 h2 h3 => layZ_any c L v ws wq h1 h2 h3 L1 L2
  have hde := fun Dn v rows pre E0 wq h1 h2 h3 h4 h5 h6 => azDecodeG_any c L Dn v rows pre E0 wq h1 h2 h3 L1 L2 h4 h5 h6
  have hhu := fun vl wsx most wq h1 h2 h3 h4 h5 h6 h7 => hurt_any (fdL L) f4 (by rw [f5]; exact Nat.le_trans (by decide) (Nat.pow_le_pow_right (n := 2) (by decide) hW6.1)) vl (.slice A1 at_.length c1) (.slice A2 by_.length c2) wsx at_ by_ most wq h1 h2 h3 h4 ba bb h5 h6 h7
  have hbi := fun v rows wq h1 h2 h3 => azBitsG_any c L v rows wq h1 h2 h3 L1 L2
  have hsz := fun wq => azBits_any c L wq L2
  have HBI := Lib.hid hbi
  have HSZ := Lib.hid hsz
  have HSY := Lib.hid hsy
  have HPL := Lib.hid hpl
  have HWD := Lib.hid hwd
  have HFD := Lib.hid hfd
  have HLAY := Lib.hid hlay
  have HDE := Lib.hid hde
  have HHU := Lib.hid hhu
  have HCAP := Lib.hid hcap
  obtain ⟨many, hmany⟩ : ∃ m, m = (dataN L code).length := ⟨_, rfl⟩
  clear hsy hpl hwd hfd hlay hde hhu hbi hsz f1 f2 f3 f4 f5 hcap
  go_enter Tryz.func4, Tryz.ntmps4
  go_wp2_with fail
  refine hly.mono ?_
  rintro e w1 ⟨rfl, hw1⟩
  subst hw1
  clear hly
  go_wp2_with fail
  refine (HSY.out _ H0.out).mono ?_
  rintro e w2 ⟨u, b, rfl, hb2, hif⟩
  cases b
  · have HF := Lib.hid hb2
    clear HSY hb2 hif
    go_wp2_with fail
    go_ret
    exact ⟨rfl, HF.out⟩
  · obtain ⟨k1, k2, hu⟩ := hif rfl
    obtain ⟨p1, p2, p3⟩ := HPL.out k2
    have HP3 := Lib.hid p3
    have HB2 := Lib.hid hb2
    have HU := Lib.hid hu.rd
    obtain ⟨Au, cu, rfl, -, -⟩ := hu.rd.form
    rw [nv_len] at hu HU ⊢
    clear hu hif p3 HPL
    generalize Gf.enc (fdL L) (capN c L / widN L - (dataN L code).length) (dataN L code) = ws at *
    rw [← hmany] at k1 k2 ⊢
    clear hmany HSY
    generalize (wAll 150 code 0).2.2 = txt at *
    have hcap := HCAP.out
    have g1 : many + 2 ≤ ws.length := by rw [p1]; exact k2
    have g2 : ws.length ≤ 1664 := by rw [p1]; exact hcap.2.2.1
    have P1 := Lib.hid p1
    have P2 := Lib.hid p2
    obtain ⟨K, hK⟩ : ∃ K, K = ws.length := ⟨_, rfl⟩
    rw [← hK] at HU g1 g2 ⊢
    have HK := Lib.hid hK
    clear hK hcap p1 p2 k2
    have nK : ¬ (K = 0) := by omega
    go_wp2_with fail
    refine (HWD.out _).mono ?_
    rintro e w2 ⟨rfl, rfl⟩
    clear HWD
    go_wp2_with fail
    refine (HFD.out _).mono ?_
    rintro e w3 ⟨rfl, hb3⟩
    have HU3 := Lib.hid (HU.out.up hb3)
    have HB3 := Lib.hid (bup HB2.out hb3)
    clear hb3 HFD HU HB2
    go_wp2_with fail
    refine (HHU.out _ ws K w3 HU3.out (HA.out.up HB3.out) (HB.out.up HB3.out) P2.out (by rw [← HK.out]; omega) (by rw [← HK.out]; omega) (by omega)).mono ?_
    rintro e w4 ⟨v4, er, rfl, q1, q2, q3, hv4, hb4⟩
    obtain ⟨r1, r2, r3⟩ := HP3.out er q1 q2
    have hly := HLAY.out v4 (Gf.xo ws er) w4 hv4.rd (by rw [r1]; exact P1.out) r2
    have HB4 := Lib.hid (bup HB3.out hb4)
    rw [← HK.out] at r1 r3
    have HR3 := Lib.hid (And.intro r1 r3)
    have HLY := Lib.hid hly
    generalize Gf.xo ws er = E0 at *
    clear hb4 HHU HB3 HU3 HLAY hly r1 r2 r3 q1 q2 q3 hv4 HP3
    by_cases hw0 : wd = 0
    · as_aux_lemma =>
      have hwp : ¬ (0 : Int) < (wd : Int) := by omega
      have hM1 : 0 < many := k1
      clear hw0 hwd9
      go_wp2_with fail
      clear hwp
      -- many = how many words of data are said
      have hca := HR3.out.2 many (by omega) (by omega)
      have hE0 := HR3.out.1
      have HCA := Lib.hid hca
      have HE0 := Lib.hid hE0
      clear hca hE0 HR3
      refine HLY.out.mono ?_
      rintro e w5 ⟨u5, G, rfl, hrow, htak, hb5⟩
      have hwl := wholeN_le c L L2
      have hT : takU c L (bitOf (rowsF (wholeN c L) (wholeN c L) G)) L = List.replicate (capN c L % widN L) false ++ wbits (widN L) E0 := by
        rw [← htak]; exact takU_congr c L _ _ (fun x y hx hy => bitOf_rowsZ _ _ _ x y hx hy)
      have hpre : (List.replicate (capN c L % widN L) false).length < widN L := by rw [List.length_replicate]; exact Nat.mod_lt _ (by omega)
      have hTl : (List.replicate (capN c L % widN L) false ++ wbits (widN L) E0).length = capN c L := by
        rw [List.length_append, List.length_replicate, wbits_len, HE0.out, HK.out, P1.out]
        have := Nat.div_add_mod (capN c L) (widN L)
        omega
      have hde := HDE.out many u5 (rowsF (wholeN c L) (wholeN c L) G) (List.replicate (capN c L % widN L) false) E0 w5 hrow (rowsF_len _ _ _) (rowsF_lenZ _ _ _) HCA.out hpre hT
      have hbi := fun wq (hb : Below w5.heap.size w5 wq) => HBI.out u5 (rowsF (wholeN c L) (wholeN c L) G) wq (hrow.up hb) (rowsF_len _ _ _) (rowsF_lenZ _ _ _)
      rw [hT] at hbi
      have hac := fun v wq h => azCorrectedG_any v c (List.replicate (capN c L % widN L) false) E0 many L (capN c L) wq HCA.out hpre h hTl (by have := HCAP.out.2.1; omega)
      have HB5 := Lib.hid (bup HB4.out hb5)
      have HDE5 := Lib.hid hde
      have HBI5 := Lib.hid hbi
      have HAC5 := Lib.hid hac
      have HLN := Lib.hid (fun l h => corG_len (l := l) HCA.out h)
      obtain ⟨B0, hB0⟩ : ∃ B, B = List.replicate (capN c L % widN L) false ++ wbits (widN L) E0 := ⟨_, rfl⟩
      rw [← hB0] at HBI5 HAC5 hTl
      have HTL := Lib.hid hTl
      obtain ⟨O, hO⟩ : ∃ O, O = corG (widN L) (fdL L) E0 (many) := ⟨_, rfl⟩
      rw [← hO] at HDE5 HAC5 HLN
      obtain ⟨b5, o5, c5, rfl, -, -, -⟩ := hrow.at_ (by rw [rowsF_len]; omega)
      rw [rowsF_len] at HDE5 HBI5 ⊢
      clear hde hbi hac hb5 HDE HLY HB4 hrow htak hT hTl hpre HBI HCA HE0 hO hB0
      go_wp2_with fail
      refine HDE5.out.mono ?_
      clear HDE5
      rintro e w6 ⟨⟨l, t, s2, A6, l6, c6, ho, hx, rfl, hr6⟩ | ⟨ho, rfl⟩, hb6⟩
      · as_aux_lemma =>
        have HO := Lib.hid ho
        have HX := Lib.hid hx
        have HR6 := Lib.hid hr6
        have HH6 := Lib.hid hb6
        clear ho hx hr6 hb6
        obtain ⟨S, hS⟩ : ∃ S, S = ofL t := ⟨_, rfl⟩
        rw [← hS]
        have HS := Lib.hid hS
        clear hS
        unfold impZ
        go_wp2_with fail
        refine (HBI5.out _ (bal HH6.out _)).mono ?_
        rintro e w7 ⟨v7, rfl, hv7, hb7⟩
        have HZ7 := Lib.hid ((Blk.fresh w6 35 #[.string S, .slice A6 l6 c6, .slice none 0 0, .string s2, .int .i64 0, .int .i64 (-1), .int .i64 (-1), .int .i64 0]).up hb7)
        have HR7 := Lib.hid (HR6.out.up (bup (bal (brf w6) _) hb7))
        have HH7 := Lib.hid (bup (bal HH6.out _) hb7)
        have HV7 := Lib.hid hv7
        obtain ⟨A7, c7, rfl, -, -⟩ := hv7.rd.form
        clear hv7 hb7 HR6 HH6
        go_wp2_with fail
        refine (HAC5.out _ w7 HV7.out).mono ?_
        rintro e w8 ⟨⟨l9, u8, hc, rfl, hu⟩ | ⟨hc, rfl⟩, hb8⟩
        case inr => exact absurd (HO.out.symm.trans hc) (by simp)
        obtain rfl : l = l9 := by
          have h9 := HO.out.symm.trans hc
          injection h9
        have HZ8 := Lib.hid (HZ7.out.up hb8)
        have HR8 := Lib.hid (HR7.out.up hb8)
        have HH8 := Lib.hid (bup HH7.out hb8)
        have HU8 := Lib.hid hu
        obtain ⟨A8, c8, rfl, -, -⟩ := hu.rd.form
        clear hc hu hb8 HZ7 HR7 HH7 HV7
        obtain ⟨ln2, ln3⟩ := HLN.out l HO.out
        go_wp2_with fail
        refine (azTextG_any _ l l.length _ w8 HU8.out.rd rfl ln2 (by omega) HX.out).mono ?_
        rintro e w9 ⟨⟨t9, ht9, rfl⟩ | ⟨ht9, s9, rfl⟩, hb9⟩
        case inr => cases ht9
        injection ht9 with ht9
        rw [← ht9, ← HS.out]
        have HZ9 := Lib.hid (HZ8.out.up hb9)
        have HR9 := Lib.hid (HR8.out.up hb9)
        have HH9 := Lib.hid (bup HH8.out hb9)
        have HU9 := Lib.hid (HU8.out.up hb9)
        clear ht9 hb9 HZ8 HR8 HH8 HU8
        go_wp2_with fail
        obtain ⟨RB, hRB⟩ : ∃ R, R = (bytesZ l).map UInt8.ofNat := ⟨_, rfl⟩
        have hwb : wv8 (bytesZ l) = bl RB := by rw [hRB]; exact wv8_bytes _ (bytesZ_lt l)
        rw [hwb] at HR9
        have hcv1 : ∀ wq, Below w9.heap.size w9 wq → (convert 22 9 (.slice A6 l6 c6)).run Tryz.prog wq = .ok (.string (ofL RB)) wq := fun wq hq =>
          conv_str (P := Tryz.prog) wq wq.heap.size 22 5 9 Tryz.underlying22 Tryz.underlying5 Tryz.underlying9 _ (ofL RB) (by rw [bytesOf_ofL]; exact (HR9.out.up hq).rd)
        have hby := fun wq (hq : Below w9.heap.size w9 wq) => azBytes_any _ l l.length wq (HU9.out.up hq).rd rfl (by omega)
        rw [hwb] at hby
        have HBY := Lib.hid hby
        obtain ⟨R, hR⟩ : ∃ R, R = ofL RB := ⟨_, rfl⟩
        rw [← hR] at hcv1
        have HRR := Lib.hid hR
        clear hRB hwb hby hR
        refine Can3.wp_region_can [13] (fun w' => Below w9.heap.size w9 w' ∧ w'.cell? ⟨w6.heap.size, 0, none⟩ = some (.string S) ∧ w'.cell? ⟨w6.heap.size, 1, none⟩ = some (.slice A6 l6 c6)) 999 [0, 1, 2, 3, 4, 5, 6, 7, 8, 9, 10, 11, 12, 13, 14, 15, 16] (by kernel_rfl) (by kernel_rfl) (fun _ _ d _ _ h => by cases d <;> exact h) ⟨bdr (brf _), by rw [(Blk.drew HZ9.out).cell]; rfl, by rw [(Blk.drew HZ9.out).cell]; rfl⟩ (fun hHeld => ?_)
        repeat (refine Can3.can_pure (v := ?_) rfl rfl rfl (Or.inl ⟨by rfl, ?_⟩) ?_; rotate_left; (focus ((intro w hSw; (try dsimp only at hSw); go_simp; (try with_reducible rfl)))); (try simp only [Act.put, List.getElem_toArray, List.getElem_cons_succ, List.getElem_cons_zero, List.setIfInBounds_toArray, List.set_cons_zero, List.set_cons_succ]))
        refine Can3.can_eff rfl rfl (by rfl) (fun K hK => ?_)
        go_simp
        refine (HBY.out _ hHeld.1).mono ?_
        rintro e w10 ⟨b, k, rfl, hr, hb10⟩
        refine hK.out _ _ ⟨bup hHeld.1 hb10, cell_up hHeld.2.1 hb10, cell_up hHeld.2.2 hb10⟩ (fun hHeld2 => ?_)
        clear hK K
        (try simp only [Act.put, List.getElem_toArray, List.getElem_cons_succ, List.getElem_cons_zero, List.setIfInBounds_toArray, List.set_cons_zero, List.set_cons_succ])
        have hcv2 : (convert 22 9 (.slice (some ⟨b, 0, none⟩) k k)).run Tryz.prog w10 = .ok (.string R) w10 := by
          rw [HRR.out]
          exact conv_str (P := Tryz.prog) w10 w10.heap.size 22 5 9 Tryz.underlying22 Tryz.underlying5 Tryz.underlying9 _ (ofL RB) (by rw [bytesOf_ofL]; exact hr.rd)
        clear hHeld hb10 hr hcv1
        refine Can3.can_eff rfl rfl (by rfl) (fun K hK => ?_)
        go_simp
        refine hK.out _ _ hHeld2 (fun hHeld3 => ?_)
        clear hK K
        (try simp only [Act.put, List.getElem_toArray, List.getElem_cons_succ, List.getElem_cons_zero, List.setIfInBounds_toArray, List.set_cons_zero, List.set_cons_succ])
        repeat (refine Can3.can_pure (v := ?_) rfl rfl rfl (Or.inl ⟨by rfl, ?_⟩) ?_; rotate_left; (focus ((intro w hSw; (try dsimp only at hSw); go_simp; (try with_reducible rfl)))); (try simp only [Act.put, List.getElem_toArray, List.getElem_cons_succ, List.getElem_cons_zero, List.setIfInBounds_toArray, List.set_cons_zero, List.set_cons_succ]))
        refine Can3.can_done ?_
        have HBF := Lib.hid (bup HB5.out (bup HH9.out hHeld2.1))
        clear hHeld2 hHeld3 hcv2
        go_wp2_with fail
        go_ret
        exact ⟨rfl, HBF.out⟩
      · as_aux_lemma =>
        have HO := Lib.hid ho
        have HH6 := Lib.hid hb6
        clear ho hb6
        unfold zImp
        go_wp2_with fail
        refine (HBI5.out _ (bal HH6.out _)).mono ?_
        rintro e w7 ⟨v7, rfl, hv7, hb7⟩
        have HH7 := Lib.hid (bup (bal HH6.out _) hb7)
        have HV7 := Lib.hid hv7
        obtain ⟨A7, c7, rfl, -, -⟩ := hv7.rd.form
        clear hv7 hb7 HH6
        go_wp2_with fail
        refine (HAC5.out _ w7 HV7.out).mono ?_
        rintro e w8 ⟨⟨l9, u8, hc, rfl, hu⟩ | ⟨hc, rfl⟩, hb8⟩
        · have HH8 := Lib.hid (bup HH7.out hb8)
          have HU8 := Lib.hid hu
          have HN := Lib.hid (HO.out l9 hc)
          obtain ⟨A8, c8, rfl, -, -⟩ := hu.rd.form
          obtain ⟨ln2, ln3⟩ := HLN.out l9 hc
          clear hc hu hb8 HH7 HV7
          go_wp2_with fail
          refine (azTextG_any _ l9 l9.length none w8 HU8.out.rd rfl ln2 (by omega) HN.out).mono ?_
          rintro e w9 ⟨⟨t9, ht9, rfl⟩ | ⟨ht9, s9, rfl⟩, hb9⟩
          case inl => cases ht9
          have HB9 := Lib.hid (bup HB5.out (bup HH8.out hb9))
          clear ht9 hb9 HH8 HU8
          go_wp2_with fail
          go_ret
          exact ⟨rfl, HB9.out⟩
        · have HH8 := Lib.hid (bup HH7.out hb8)
          clear hc hb8 HH7 HV7
          go_wp2_with fail
          refine (HBI5.out _ HH8.out).mono ?_
          rintro e w9 ⟨v9, rfl, hv9, hb9⟩
          have HB9 := Lib.hid (bup HB5.out (bup HH8.out hb9))
          obtain ⟨A9, c9, rfl, -, -⟩ := hv9.rd.form
          rw [bv_len, HTL.out]
          clear hv9 hb9 HH8
          go_wp2_with fail
          refine (HSZ.out _).mono ?_
          rintro e w9 ⟨rfl, rfl⟩
          go_wp2_with fail
          go_ret
          exact ⟨rfl, HB9.out⟩
    · as_aux_lemma =>
      have hwp : (0 : Int) < (wd : Int) := by omega
      obtain ⟨J, hJ⟩ : ∃ J, J = K - 2 := ⟨_, rfl⟩
      have hj2 : (K : Int) - 2 = (J : Int) := by omega
      have hml := Nat.mod_lt wd (show 0 < J by omega)
      have nJ : ¬ J = 0 := by omega
      obtain ⟨r, hr⟩ : ∃ r, r = wd % J := ⟨_, rfl⟩
      have hmd : Int.tmod (wd : Int) (J : Int) = (r : Int) := by
        rw [hr, Int.tmod_eq_emod_of_nonneg (by omega)]; exact (Int.natCast_emod _ _).symm
      rw [← hr] at hml
      obtain ⟨M, hM⟩ : ∃ M, M = 1 + r := ⟨_, rfl⟩
      have hM1 : 0 < M := by omega
      have hM2 : M + 2 ≤ K := by omega
      have hm2 : (1 : Int) + (r : Int) = (M : Int) := by omega
      clear hM hr hml hw0 hJ
      go_wp2_with fail
      clear hwp hwd9 hmd nJ hm2 hj2
      -- M = how many words of data are said
      have hca := HR3.out.2 M (by omega) (by omega)
      have hE0 := HR3.out.1
      have HCA := Lib.hid hca
      have HE0 := Lib.hid hE0
      clear hca hE0 HR3
      refine HLY.out.mono ?_
      rintro e w5 ⟨u5, G, rfl, hrow, htak, hb5⟩
      have hwl := wholeN_le c L L2
      have hT : takU c L (bitOf (rowsF (wholeN c L) (wholeN c L) G)) L = List.replicate (capN c L % widN L) false ++ wbits (widN L) E0 := by
        rw [← htak]; exact takU_congr c L _ _ (fun x y hx hy => bitOf_rowsZ _ _ _ x y hx hy)
      have hpre : (List.replicate (capN c L % widN L) false).length < widN L := by rw [List.length_replicate]; exact Nat.mod_lt _ (by omega)
      have hTl : (List.replicate (capN c L % widN L) false ++ wbits (widN L) E0).length = capN c L := by
        rw [List.length_append, List.length_replicate, wbits_len, HE0.out, HK.out, P1.out]
        have := Nat.div_add_mod (capN c L) (widN L)
        omega
      have hde := HDE.out M u5 (rowsF (wholeN c L) (wholeN c L) G) (List.replicate (capN c L % widN L) false) E0 w5 hrow (rowsF_len _ _ _) (rowsF_lenZ _ _ _) HCA.out hpre hT
      have hbi := fun wq (hb : Below w5.heap.size w5 wq) => HBI.out u5 (rowsF (wholeN c L) (wholeN c L) G) wq (hrow.up hb) (rowsF_len _ _ _) (rowsF_lenZ _ _ _)
      rw [hT] at hbi
      have hac := fun v wq h => azCorrectedG_any v c (List.replicate (capN c L % widN L) false) E0 M L (capN c L) wq HCA.out hpre h hTl (by have := HCAP.out.2.1; omega)
      have HB5 := Lib.hid (bup HB4.out hb5)
      have HDE5 := Lib.hid hde
      have HBI5 := Lib.hid hbi
      have HAC5 := Lib.hid hac
      have HLN := Lib.hid (fun l h => corG_len (l := l) HCA.out h)
      obtain ⟨B0, hB0⟩ : ∃ B, B = List.replicate (capN c L % widN L) false ++ wbits (widN L) E0 := ⟨_, rfl⟩
      rw [← hB0] at HBI5 HAC5 hTl
      have HTL := Lib.hid hTl
      obtain ⟨O, hO⟩ : ∃ O, O = corG (widN L) (fdL L) E0 (M) := ⟨_, rfl⟩
      rw [← hO] at HDE5 HAC5 HLN
      obtain ⟨b5, o5, c5, rfl, -, -, -⟩ := hrow.at_ (by rw [rowsF_len]; omega)
      rw [rowsF_len] at HDE5 HBI5 ⊢
      clear hde hbi hac hb5 HDE HLY HB4 hrow htak hT hTl hpre HBI HCA HE0 hO hB0
      go_wp2_with fail
      refine HDE5.out.mono ?_
      clear HDE5
      rintro e w6 ⟨⟨l, t, s2, A6, l6, c6, ho, hx, rfl, hr6⟩ | ⟨ho, rfl⟩, hb6⟩
      · as_aux_lemma =>
        have HO := Lib.hid ho
        have HX := Lib.hid hx
        have HR6 := Lib.hid hr6
        have HH6 := Lib.hid hb6
        clear ho hx hr6 hb6
        obtain ⟨S, hS⟩ : ∃ S, S = ofL t := ⟨_, rfl⟩
        rw [← hS]
        have HS := Lib.hid hS
        clear hS
        unfold impZ
        go_wp2_with fail
        refine (HBI5.out _ (bal HH6.out _)).mono ?_
        rintro e w7 ⟨v7, rfl, hv7, hb7⟩
        have HZ7 := Lib.hid ((Blk.fresh w6 35 #[.string S, .slice A6 l6 c6, .slice none 0 0, .string s2, .int .i64 0, .int .i64 (-1), .int .i64 (-1), .int .i64 0]).up hb7)
        have HR7 := Lib.hid (HR6.out.up (bup (bal (brf w6) _) hb7))
        have HH7 := Lib.hid (bup (bal HH6.out _) hb7)
        have HV7 := Lib.hid hv7
        obtain ⟨A7, c7, rfl, -, -⟩ := hv7.rd.form
        clear hv7 hb7 HR6 HH6
        go_wp2_with fail
        refine (HAC5.out _ w7 HV7.out).mono ?_
        rintro e w8 ⟨⟨l9, u8, hc, rfl, hu⟩ | ⟨hc, rfl⟩, hb8⟩
        case inr => exact absurd (HO.out.symm.trans hc) (by simp)
        obtain rfl : l = l9 := by
          have h9 := HO.out.symm.trans hc
          injection h9
        have HZ8 := Lib.hid (HZ7.out.up hb8)
        have HR8 := Lib.hid (HR7.out.up hb8)
        have HH8 := Lib.hid (bup HH7.out hb8)
        have HU8 := Lib.hid hu
        obtain ⟨A8, c8, rfl, -, -⟩ := hu.rd.form
        clear hc hu hb8 HZ7 HR7 HH7 HV7
        obtain ⟨ln2, ln3⟩ := HLN.out l HO.out
        go_wp2_with fail
        refine (azTextG_any _ l l.length _ w8 HU8.out.rd rfl ln2 (by omega) HX.out).mono ?_
        rintro e w9 ⟨⟨t9, ht9, rfl⟩ | ⟨ht9, s9, rfl⟩, hb9⟩
        case inr => cases ht9
        injection ht9 with ht9
        rw [← ht9, ← HS.out]
        have HZ9 := Lib.hid (HZ8.out.up hb9)
        have HR9 := Lib.hid (HR8.out.up hb9)
        have HH9 := Lib.hid (bup HH8.out hb9)
        have HU9 := Lib.hid (HU8.out.up hb9)
        clear ht9 hb9 HZ8 HR8 HH8 HU8
        go_wp2_with fail
        obtain ⟨RB, hRB⟩ : ∃ R, R = (bytesZ l).map UInt8.ofNat := ⟨_, rfl⟩
        have hwb : wv8 (bytesZ l) = bl RB := by rw [hRB]; exact wv8_bytes _ (bytesZ_lt l)
        rw [hwb] at HR9
        have hcv1 : ∀ wq, Below w9.heap.size w9 wq → (convert 22 9 (.slice A6 l6 c6)).run Tryz.prog wq = .ok (.string (ofL RB)) wq := fun wq hq =>
          conv_str (P := Tryz.prog) wq wq.heap.size 22 5 9 Tryz.underlying22 Tryz.underlying5 Tryz.underlying9 _ (ofL RB) (by rw [bytesOf_ofL]; exact (HR9.out.up hq).rd)
        have hby := fun wq (hq : Below w9.heap.size w9 wq) => azBytes_any _ l l.length wq (HU9.out.up hq).rd rfl (by omega)
        rw [hwb] at hby
        have HBY := Lib.hid hby
        obtain ⟨R, hR⟩ : ∃ R, R = ofL RB := ⟨_, rfl⟩
        rw [← hR] at hcv1
        have HRR := Lib.hid hR
        clear hRB hwb hby hR
        refine Can3.wp_region_can [13] (fun w' => Below w9.heap.size w9 w' ∧ w'.cell? ⟨w6.heap.size, 0, none⟩ = some (.string S) ∧ w'.cell? ⟨w6.heap.size, 1, none⟩ = some (.slice A6 l6 c6)) 999 [0, 1, 2, 3, 4, 5, 6, 7, 8, 9, 10, 11, 12, 13, 14, 15, 16] (by kernel_rfl) (by kernel_rfl) (fun _ _ d _ _ h => by cases d <;> exact h) ⟨bdr (brf _), by rw [(Blk.drew HZ9.out).cell]; rfl, by rw [(Blk.drew HZ9.out).cell]; rfl⟩ (fun hHeld => ?_)
        repeat (refine Can3.can_pure (v := ?_) rfl rfl rfl (Or.inl ⟨by rfl, ?_⟩) ?_; rotate_left; (focus ((intro w hSw; (try dsimp only at hSw); go_simp; (try with_reducible rfl)))); (try simp only [Act.put, List.getElem_toArray, List.getElem_cons_succ, List.getElem_cons_zero, List.setIfInBounds_toArray, List.set_cons_zero, List.set_cons_succ]))
        refine Can3.can_eff rfl rfl (by rfl) (fun K hK => ?_)
        go_simp
        refine (HBY.out _ hHeld.1).mono ?_
        rintro e w10 ⟨b, k, rfl, hr, hb10⟩
        refine hK.out _ _ ⟨bup hHeld.1 hb10, cell_up hHeld.2.1 hb10, cell_up hHeld.2.2 hb10⟩ (fun hHeld2 => ?_)
        clear hK K
        (try simp only [Act.put, List.getElem_toArray, List.getElem_cons_succ, List.getElem_cons_zero, List.setIfInBounds_toArray, List.set_cons_zero, List.set_cons_succ])
        have hcv2 : (convert 22 9 (.slice (some ⟨b, 0, none⟩) k k)).run Tryz.prog w10 = .ok (.string R) w10 := by
          rw [HRR.out]
          exact conv_str (P := Tryz.prog) w10 w10.heap.size 22 5 9 Tryz.underlying22 Tryz.underlying5 Tryz.underlying9 _ (ofL RB) (by rw [bytesOf_ofL]; exact hr.rd)
        clear hHeld hb10 hr hcv1
        refine Can3.can_eff rfl rfl (by rfl) (fun K hK => ?_)
        go_simp
        refine hK.out _ _ hHeld2 (fun hHeld3 => ?_)
        clear hK K
        (try simp only [Act.put, List.getElem_toArray, List.getElem_cons_succ, List.getElem_cons_zero, List.setIfInBounds_toArray, List.set_cons_zero, List.set_cons_succ])
        repeat (refine Can3.can_pure (v := ?_) rfl rfl rfl (Or.inl ⟨by rfl, ?_⟩) ?_; rotate_left; (focus ((intro w hSw; (try dsimp only at hSw); go_simp; (try with_reducible rfl)))); (try simp only [Act.put, List.getElem_toArray, List.getElem_cons_succ, List.getElem_cons_zero, List.setIfInBounds_toArray, List.set_cons_zero, List.set_cons_succ]))
        refine Can3.can_done ?_
        have HBF := Lib.hid (bup HB5.out (bup HH9.out hHeld2.1))
        clear hHeld2 hHeld3 hcv2
        go_wp2_with fail
        go_ret
        exact ⟨rfl, HBF.out⟩
      · as_aux_lemma =>
        have HO := Lib.hid ho
        have HH6 := Lib.hid hb6
        clear ho hb6
        unfold zImp
        go_wp2_with fail
        refine (HBI5.out _ (bal HH6.out _)).mono ?_
        rintro e w7 ⟨v7, rfl, hv7, hb7⟩
        have HH7 := Lib.hid (bup (bal HH6.out _) hb7)
        have HV7 := Lib.hid hv7
        obtain ⟨A7, c7, rfl, -, -⟩ := hv7.rd.form
        clear hv7 hb7 HH6
        go_wp2_with fail
        refine (HAC5.out _ w7 HV7.out).mono ?_
        rintro e w8 ⟨⟨l9, u8, hc, rfl, hu⟩ | ⟨hc, rfl⟩, hb8⟩
        · have HH8 := Lib.hid (bup HH7.out hb8)
          have HU8 := Lib.hid hu
          have HN := Lib.hid (HO.out l9 hc)
          obtain ⟨A8, c8, rfl, -, -⟩ := hu.rd.form
          obtain ⟨ln2, ln3⟩ := HLN.out l9 hc
          clear hc hu hb8 HH7 HV7
          go_wp2_with fail
          refine (azTextG_any _ l9 l9.length none w8 HU8.out.rd rfl ln2 (by omega) HN.out).mono ?_
          rintro e w9 ⟨⟨t9, ht9, rfl⟩ | ⟨ht9, s9, rfl⟩, hb9⟩
          case inl => cases ht9
          have HB9 := Lib.hid (bup HB5.out (bup HH8.out hb9))
          clear ht9 hb9 HH8 HU8
          go_wp2_with fail
          go_ret
          exact ⟨rfl, HB9.out⟩
        · have HH8 := Lib.hid (bup HH7.out hb8)
          clear hc hb8 HH7 HV7
          go_wp2_with fail
          refine (HBI5.out _ HH8.out).mono ?_
          rintro e w9 ⟨v9, rfl, hv9, hb9⟩
          have HB9 := Lib.hid (bup HB5.out (bup HH8.out hb9))
          obtain ⟨A9, c9, rfl, -, -⟩ := hv9.rd.form
          rw [bv_len, HTL.out]
          clear hv9 hb9 HH8
          go_wp2_with fail
          refine (HSZ.out _).mono ?_
          rintro e w9 ⟨rfl, rfl⟩
          go_wp2_with fail
          go_ret
          exact ⟨rfl, HB9.out⟩
end Go.Proofs.YtopfdmmimgnciaaGreatDoor
