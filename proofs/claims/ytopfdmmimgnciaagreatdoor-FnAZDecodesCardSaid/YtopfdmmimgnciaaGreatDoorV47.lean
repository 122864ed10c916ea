/-
  WALKS: correctBits, decoder.CorrectBits, impl.AZCorrected of any words. WALKS: aztec's Decoder.Decode of anything. WALKS: impl.decoded of an error; impl.AZDecode of anything. WALKS: impl.AZBits, impl.AZText, impl.AZBytes of anything.
-/
import Derived.Test.YtopfdmmimgnciaaGreatDoorV42
import Derived.Test.YtopfdmmimgnciaaGreatDoorV43
import Derived.Test.YtopfdmmimgnciaaGreatDoorV44
import Derived.Test.YtopfdmmimgnciaaGreatDoorV45
import Derived.Test.YtopfdmmimgnciaaGreatDoorV46
import Derived.Test.YtopfdmmimgnciaaGreatDoorV33
namespace Go.Proofs.YtopfdmmimgnciaaGreatDoor
open Go.RowKit

theorem corg_any (p d : Nat) (v : Value) (pre : List Bool) (E0 : List Nat) (Dn L : Nat) (w : World) (hk : CorAny (widN L) (fdL L) E0 Dn) (hpre : pre.length < widN L) (hp : Blk w p 92 #[.pointer (some ⟨d, 0, none⟩)]) (hd : DetAt w d Dn L) (hv : RdT w 4 v (bv (pre ++ wbits (widN L) E0))) :
    Calls Tryz.prog 48 #[.pointer (some ⟨p, 0, none⟩), v] w (CorEnd (widN L) (fdL L) E0 Dn w) := by
  rcases clsL L with ⟨h1, h2, h3⟩ | ⟨h1, h2, h3, h4⟩ | ⟨h1, h2, h3, h4⟩ | ⟨h1, h2, h3⟩
  · rw [h1, h2] at hk ⊢; rw [h1] at hpre hv
    exact cor6g p d v pre E0 Dn L w h3 hk hpre hp hd hv
  · rw [h1, h2] at hk ⊢; rw [h1] at hpre hv
    exact cor8g p d v pre E0 Dn L w h3 h4 hk hpre hp hd hv
  · rw [h1, h2] at hk ⊢; rw [h1] at hpre hv
    exact cor10g p d v pre E0 Dn L w h3 h4 hk hpre hp hd hv
  · rw [h1, h2] at hk ⊢; rw [h1] at hpre hv
    exact cor12g p d v pre E0 Dn L w h3 hk hpre hp hd hv
theorem cntS_leG (W : Nat) (ws : List Nat) : cntS W ws ≤ ws.length := by
  induction ws with
  | nil => simp [cntS]
  | cons x r ih =>
    have e : cntS W (x :: r) = (isStuf W x).toNat + cntS W r := by simp [cntS]
    have : (isStuf W x).toNat ≤ 1 := by cases isStuf W x <;> decide
    rw [e, List.length_cons]; omega
/-- How many bits the words say. -/
theorem corG_len {L Dn : Nat} {E0 : List Nat} {l : List Bool} (hk : CorAny (widN L) (fdL L) E0 Dn) (h : corG (widN L) (fdL L) E0 Dn = some l) : 2 ≤ l.length ∧ l.length ≤ 30000 := by
  have hW := widN_le L
  have h1 := hk.d1
  have h2 := hk.d200
  have h3 := hk.d2
  unfold corG at h
  split at h
  · cases h
  · rename_i E hE
    have hl := Gf.rsDec_len hE
    split at h
    · cases h
    · injection h with h
      generalize widN L = W at *
      have hll := unL_len W (E.take Dn) (by omega)
      have hcs := cntS_leG W (E.take Dn)
      have htk : (E.take Dn).length = Dn := by rw [List.length_take]; omega
      rw [htk, h] at hll
      rw [htk] at hcs
      have hm1 : Dn * W ≤ Dn * 12 := Nat.mul_le_mul_left Dn (by omega)
      have hm2 : Dn * 6 ≤ Dn * W := Nat.mul_le_mul_left Dn (by omega)
      omega
theorem doorCorG_any (v : Value) (c : Bool) (pre : List Bool) (E0 : List Nat) (Dn L : Nat) (w : World) (hk : CorAny (widN L) (fdL L) E0 Dn) (hpre : pre.length < widN L) (hv : RdT w 4 v (bv (pre ++ wbits (widN L) E0))) :
    Calls Tryz.prog 28 #[v, .bool c, .int .i64 Dn, .int .i64 L] w fun e w' => ((∃ l u, corG (widN L) (fdL L) E0 Dn = some l ∧ e = .returned (.tuple #[u, .nilIface]) ∧ RdT w' 4 u (bv l)) ∨ (corG (widN L) (fdL L) E0 Dn = none ∧ ∃ t x, e = .returned (.tuple #[.slice none 0 0, .iface t x]))) ∧ Below w.heap.size w w' := by
  have HC := Lib.hid (fun p d w' (hb : Below w.heap.size w w') h1 h2 => corg_any p d v pre E0 Dn L w' hk hpre h1 h2 (hv.up hb))
  clear hk hpre hv
  go_enter Tryz.func28, Tryz.ntmps28
  go_wp2_with fail
  refine (detNew_any c Dn L w).mono ?_
  rintro e w1 ⟨d, rfl, hd, hb1⟩
  have hcr := HC.out w1.heap.size d (w1.alloc (.cells #[.pointer (some ⟨d, 0, none⟩)] 92)) (bal hb1 _) (Blk.fresh w1 _ _) (hd.up (bal (brf w1) _))
  have HB := Lib.hid (bal hb1 (.cells #[.pointer (some ⟨d, 0, none⟩)] 92))
  clear hd hb1
  go_wp2_with fail
  refine hcr.mono ?_
  rintro e w2 ⟨⟨l, r, u, ho, rfl, hr, hu⟩ | ⟨ho, t, x, rfl⟩, hb2⟩
  · have c0 : w2.cell? ⟨r, 0, none⟩ = some u := by rw [hr.cell]; rfl
    have HU := Lib.hid (And.intro ho hu)
    have HB2 := Lib.hid (bup HB.out (hb2.mono (by simp)) )
    clear hcr hr ho hu hb2
    go_wp2_with fail
    go_ret2
    exact ⟨.inl ⟨l, u, HU.out.1, rfl, HU.out.2⟩, HB2.out⟩
  · have HU := Lib.hid ho
    have HB2 := Lib.hid (bup HB.out (hb2.mono (by simp)) )
    clear hcr ho hb2
    go_wp2_with fail
    go_ret2
    exact ⟨.inr ⟨HU.out, _, _, rfl⟩, HB2.out⟩
set_option maxRecDepth 100000 in
theorem azCorrectedG_any (v : Value) (c : Bool) (pre : List Bool) (E0 : List Nat) (Dn L n : Nat) (w : World) (hk : CorAny (widN L) (fdL L) E0 Dn) (hpre : pre.length < widN L) (hv : RdT w 4 v (bv (pre ++ wbits (widN L) E0))) (hn : (pre ++ wbits (widN L) E0).length = n) (hmax : n ≤ 1000000) :
    Calls Tryz.prog 12 #[v, .bool c, .int .i64 Dn, .int .i64 L] w fun e w' => ((∃ l u, corG (widN L) (fdL L) E0 Dn = some l ∧ e = .returned (.tuple #[u, .bool true]) ∧ RdT w' 4 u (bv l)) ∨ (corG (widN L) (fdL L) E0 Dn = none ∧ e = .returned (.tuple #[.slice none 0 0, .bool false]))) ∧ Below w.heap.size w w' := by
  obtain ⟨i0, hi0, hz0, hz1, hz2⟩ := info_parts info_bool
  obtain ⟨A, cap, hvf, -, -⟩ := hv.rd.form
  have HV := Lib.hid hv.rd
  subst hvf
  have HN := Lib.hid hn
  have HC := Lib.hid (fun v w' h => doorCorG_any v c pre E0 Dn L w' hk hpre h)
  clear hv hn hk hpre
  go_enter Tryz.func12, Tryz.ntmps12
  go_wp2_with (with_reducible refine stop_at (o := ⟨some 14, _, _, _, _, _⟩) ?_)
  refine Lib.hid ?_
  refine list_app_rd _ rfl _ _ 42 rfl w.heap.size 4 i0 _ 1 Tryz.underlying42 hi0 hz0 hz1 hz2 rfl _ 0 [] rfl (own_nil _ _ _) _ _ (bv (pre ++ wbits (widN L) E0)) rfl HV.out (fun u hu => by simp only [bv, List.mem_map] at hu; obtain ⟨x, _, rfl⟩ := hu; rfl) (by rw [bv_len, HN.out]; unfold maxLen; omega) (by rw [bv_len, HN.out]; omega) (Nat.le_refl _) ?_
  intro v1 w2 ho1 hg1
  rw [List.nil_append] at ho1
  have hdc := HC.out v1 w2 (RdT.of_own ho1)
  have HB2 : Hid (Below w.heap.size w w2) := Lib.hid (below_grown (brf w) hg1 (own_nil w w.heap.size 4) (Nat.le_refl _))
  clear ho1 hg1 HC
  go_wp2_with fail
  refine hdc.mono ?_
  rintro e w3 ⟨⟨l, u, ho, rfl, hu⟩ | ⟨ho, t, x, rfl⟩, hb3⟩
  · have HO := Lib.hid ho
    have HU := Lib.hid hu
    have HB3 := Lib.hid (bup HB2.out hb3)
    clear hdc hu ho hb3
    go_wp2_with fail
    refine Can.wp_region_can (fun w' => True) 999 [0, 1, 2, 3, 4] (by kernel_rfl) (by kernel_rfl) (fun _ _ d _ _ h => by cases d <;> exact h) trivial (fun hHeld => ?_)
    repeat (refine Can.can_pure (v := ?_) rfl rfl (Or.inl ⟨by rfl, ?_⟩) ?_; rotate_left; (focus ((intro w hSw); (try dsimp only at hSw); go_simp; (try with_reducible rfl))); (try simp only [Act.put, List.getElem_toArray, List.getElem_cons_succ, List.getElem_cons_zero, List.setIfInBounds_toArray, List.set_cons_zero, List.set_cons_succ]))
    refine Can.can_done ?_
    have HB4 := Lib.hid (bdr HB3.out)
    have HU4 := Lib.hid (HU.out.up (bdr (brf w3)))
    clear hHeld
    go_wp2_with fail
    go_ret2
    exact ⟨.inl ⟨l, u, HO.out, rfl, HU4.out⟩, HB4.out⟩
  · have HO := Lib.hid ho
    have HB3 := Lib.hid (bup HB2.out hb3)
    clear hdc ho hb3
    go_wp2_with fail
    refine Can.wp_region_can (fun w' => True) 999 [0, 1, 2, 3, 4] (by kernel_rfl) (by kernel_rfl) (fun _ _ d _ _ h => by cases d <;> exact h) trivial (fun hHeld => ?_)
    repeat (refine Can.can_pure (v := ?_) rfl rfl (Or.inl ⟨by rfl, ?_⟩) ?_; rotate_left; (focus ((intro w hSw); (try dsimp only at hSw); go_simp; (try with_reducible rfl))); (try simp only [Act.put, List.getElem_toArray, List.getElem_cons_succ, List.getElem_cons_zero, List.setIfInBounds_toArray, List.set_cons_zero, List.set_cons_succ]))
    refine Can.can_done ?_
    have HB4 := Lib.hid (bdr HB3.out)
    clear hHeld
    go_wp2_with fail
    go_ret2
    exact ⟨.inr ⟨HO.out, rfl⟩, HB4.out⟩
end Go.Proofs.YtopfdmmimgnciaaGreatDoor
namespace Go.Proofs.YtopfdmmimgnciaaGreatDoor
open Go.RowKit

/-- How aztec's Decode ends. -/
def DecEnd (L Dn : Nat) (E0 : List Nat) (nd : Nat) (w : World) (e : Ending) (w' : World) : Prop :=
  ((∃ l t g b n nb s2, corG (widN L) (fdL L) E0 Dn = some l ∧ decG l.length l 0 0 = some t ∧ e = .returned (.tuple #[.pointer (some ⟨g, 0, none⟩), .nilIface]) ∧ Blk w' g 118 (drZ (some ⟨b, 0, none⟩) n n nb (ofL t) s2) ∧ RdT w' 5 (.slice (some ⟨b, 0, none⟩) n n) (wv8 (bytesZ l)) ∧ n ≤ 65536) ∨
    ((∀ l, corG (widN L) (fdL L) E0 Dn = some l → decG l.length l 0 0 = none) ∧ ∃ t u, e = .returned (.tuple #[.pointer none, .iface t u]))) ∧ Below nd w w'
set_option maxRecDepth 100000 in
set_option maxHeartbeats 8000000 in
theorem decodeG_any (c : Bool) (L Dn m gm nd d q : Nat) (f : Nat → Nat → Bool) (pre : List Bool) (E0 : List Nat) (w : World)
    (hm : MatAt w m gm (wholeN c L) (wholeN c L) f) (hmn : m < nd) (hgn : gm < nd) (hnd : Blk w nd 92 #[.pointer none])
    (hd : Blk w d 96 #[.pointer (some ⟨q, 0, none⟩), .bool c, .int .i64 Dn, .int .i64 L]) (hq : Blk w q 120 #[.pointer (some ⟨m, 0, none⟩), .slice none 0 0]) (hdn : d ≠ nd) (hqn : q ≠ nd)
    (hL1 : 1 ≤ L) (hL : L ≤ 32) (hk : CorAny (widN L) (fdL L) E0 Dn) (hpre : pre.length < widN L) (ht : takU c L f L = pre ++ wbits (widN L) E0) :
    Calls Tryz.prog 23 #[.pointer (some ⟨nd, 0, none⟩), .pointer (some ⟨d, 0, none⟩)] w (DecEnd L Dn E0 nd w) := by
  have hD1 := hk.d1
  have hE2 := hk.len2
  have hD2 := hk.d2
  have HLEN := Lib.hid (fun l h => corG_len (l := l) hk h)
  obtain ⟨lv, hlv⟩ : ∃ x, x = 100 * (E0.length - Dn) / E0.length := ⟨_, rfl⟩
  have hlv1 : lv < 100 := by rw [hlv, Nat.div_lt_iff_lt_mul (by omega)]; omega
  -- the world behind the first store
  have c0 : w.cell? ⟨nd, 0, none⟩ = some (.pointer none) := by rw [hnd.cell]; rfl
  have f0 := hnd.frozen 0
  obtain ⟨w1, hw1⟩ : ∃ x, x = w.setCell ⟨nd, 0, none⟩ (.pointer (some ⟨d, 0, none⟩)) := ⟨_, rfl⟩
  have hb1 : Below nd w w1 := by rw [hw1]; exact (Below.refl nd w).setCell (p := ⟨nd, 0, none⟩) (Nat.le_refl _) _
  have hnd1 : Blk w1 nd 92 #[.pointer (some ⟨d, 0, none⟩)] := by rw [hw1]; exact hnd.put 0 _
  have hd1 : Blk w1 d 96 #[.pointer (some ⟨q, 0, none⟩), .bool c, .int .i64 Dn, .int .i64 L] := by rw [hw1]; exact hd.far (p := ⟨nd, 0, none⟩) hdn _
  have hq1 : Blk w1 q 120 #[.pointer (some ⟨m, 0, none⟩), .slice none 0 0] := by rw [hw1]; exact hq.far (p := ⟨nd, 0, none⟩) hqn _
  have hm1' := hm.below hb1 hmn hgn
  have cd0 : w1.cell? ⟨d, 0, none⟩ = some (.pointer (some ⟨q, 0, none⟩)) := by rw [hd1.cell]; rfl
  have hgb := getBits_any q (.pointer (some ⟨m, 0, none⟩)) w1 (by rw [hq1.cell]; rfl)
  have hex := extractZ_any c L m gm nd d f w1 hm1' (by rw [hnd1.cell]; rfl) (by rw [hd1.cell]; rfl) (by rw [hd1.cell]; rfl) hL1 hL
  rw [ht] at hex
  have HEX := Lib.hid hex
  have HND := Lib.hid hnd1
  have HDD := Lib.hid hd1
  have HB1 := Lib.hid hb1
  have HCO := Lib.hid (fun v wq (h1 : Blk wq nd 92 #[.pointer (some ⟨d, 0, none⟩)]) (h2 : DetAt wq d Dn L) h3 => corg_any nd d v pre E0 Dn L wq hk hpre h1 h2 h3)
  unfold CorEnd at HCO
  rw [← hlv] at HCO
  have HL9 := Lib.hid hnd.lt
  rw [hw1] at cd0
  have HW1 := Lib.hid hw1.symm
  clear hex hnd1 hd1 hq1 hb1 hm1' hk hpre ht hm hd hq hnd hw1 hlv hD1 hD2 hE2
  go_enter Tryz.func23, Tryz.ntmps23
  go_wp2_with fail
  rw [HW1.out]
  refine hgb.mono ?_
  rintro e w2 ⟨rfl, hw2⟩
  subst hw2
  clear hgb cd0 c0 f0
  go_wp2_with fail
  refine HEX.out.mono ?_
  rintro e w3 ⟨v3, rfl, hv3, hb3⟩
  have HV3 := Lib.hid hv3
  have HND3 := Lib.hid (HND.out.up hb3)
  have HDD3 := Lib.hid (HDD.out.up hb3)
  have HB3 := Lib.hid (HB1.out.trans (hb3.mono (Nat.le_of_lt HND.out.lt)))
  clear hv3 hb3 HEX HND HDD HB1
  go_wp2_with fail
  refine (HCO.out v3 w3 HND3.out ⟨_, _, HDD3.out⟩ HV3.out).mono ?_
  rintro e w4 ⟨⟨l, r, u, ho, rfl, hr4, hu4⟩ | ⟨ho, t4, u4, rfl⟩, hb4⟩
  case inr =>
    have HO := Lib.hid ho
    have HB4 := Lib.hid (HB3.out.trans (hb4.mono (Nat.le_of_lt HND3.out.lt)))
    have hnd4 := Nat.lt_of_lt_of_le HND3.out.lt hb4.size
    clear ho hb4 HCO HV3 HND3 HDD3 HB3 HLEN
    go_wp2_with fail
    -- 4 = world's number, 5 = the next one, (fun l9 h9 => absurd (HO.out.symm.trans h9) (by simp)) = the fact that there is nothing
    refine (wrapF_any _ _ _).mono ?_
    rintro e w5 ⟨⟨t5, u5, rfl⟩, hb5⟩
    have HBF := Lib.hid (HB4.out.trans (hb5.mono (Nat.le_of_lt hnd4)))
    clear hb5 HB4
    go_wp2_with fail
    go_ret2
    exact ⟨.inr ⟨(fun l9 h9 => absurd (HO.out.symm.trans h9) (by simp)), _, _, rfl⟩, HBF.out⟩
  obtain ⟨l2, l3⟩ := HLEN.out l ho
  have HO := Lib.hid ho
  clear ho HLEN
  have HR4 := Lib.hid hr4
  obtain ⟨A4, c4, rfl, -, hc4⟩ := hu4.rd.form
  rw [bv_len] at hr4 hu4 HR4
  have HU4 := Lib.hid hu4
  have HB4 := Lib.hid (HB3.out.trans (hb4.mono (Nat.le_of_lt HND3.out.lt)))
  have hnd4 := Nat.lt_of_lt_of_le HND3.out.lt hb4.size
  have c40 : w4.cell? ⟨r, 0, none⟩ = some (.slice A4 l.length c4) := by rw [hr4.cell]; rfl
  clear hr4 hu4 hb4 HCO HV3 HND3 HDD3 HB3
  go_wp2_with fail
  refine (convert_any _ l w4 HU4.out.rd (by omega)).mono ?_
  rintro e w5 ⟨b5, n5, rfl, hn5, hr5, hb5⟩
  have HR5 := Lib.hid hr5
  have HU5 := Lib.hid (HU4.out.up hb5)
  have HC5 := Lib.hid (HR4.out.up hb5)
  have HB5 := Lib.hid (HB4.out.trans (hb5.mono (Nat.le_of_lt hnd4)))
  have hnd5 := Nat.lt_of_lt_of_le hnd4 hb5.size
  have c50 : w5.cell? ⟨r, 0, none⟩ = some (.slice A4 l.length c4) := by rw [HC5.out.cell]; rfl
  clear hr5 hb5 HU4 HR4 HB4 c40
  go_wp2_with fail
  refine (encodedG_any nd _ l l.length _ w5 HU5.out.rd rfl l2 (by omega) rfl).mono ?_
  rintro e w6 ⟨⟨tx, hx, rfl⟩ | ⟨hx, s6, t6, u6, rfl⟩, hb6⟩
  case inr =>
    have HO2 : Hid (∀ l, corG (widN L) (fdL L) E0 Dn = some l → decG l.length l 0 0 = none) := Lib.hid (fun l9 h9 => by
      rw [HO.out] at h9
      injection h9 with h9
      rw [← h9]; exact hx)
    have HB6 := Lib.hid (HB5.out.trans (hb6.mono (Nat.le_of_lt hnd5)))
    have hnd6 := Nat.lt_of_lt_of_le hnd5 hb6.size
    clear hb6 hx HO HU5 HR5 HC5 HB5 c50
    go_wp2_with fail
    -- 6 = world's number, 7 = the next one, HO2.out = the fact that there is nothing
    refine (wrapF_any _ _ _).mono ?_
    rintro e w7 ⟨⟨t7, u7, rfl⟩, hb7⟩
    have HBF := Lib.hid (HB6.out.trans (hb7.mono (Nat.le_of_lt hnd6)))
    clear hb7 HB6
    go_wp2_with fail
    go_ret2
    exact ⟨.inr ⟨HO2.out, _, _, rfl⟩, HBF.out⟩
  have HX := Lib.hid hx
  clear hx
  have HR6 := Lib.hid (HR5.out.up hb6)
  have HC6 := Lib.hid (HC5.out.up hb6)
  have HB6 := Lib.hid (HB5.out.trans (hb6.mono (Nat.le_of_lt hnd5)))
  have hnd6 := Nat.lt_of_lt_of_le hnd5 hb6.size
  have c61 : w6.cell? ⟨r, 1, none⟩ = some (.int .i64 (lv : Int)) := by rw [HC6.out.cell]; rfl
  clear hb6 HU5 HR5 HC5 HB5 c50
  go_wp2_with fail
  refine (itoa_any lv hlv1 w6).mono ?_
  rintro e w7 ⟨rfl, hw7⟩
  subst hw7
  obtain ⟨s1, hs1⟩ : ∃ s, s = ofL (itoL lv) := ⟨_, rfl⟩
  have hs2 : s1.size ≤ 2 := by rw [hs1, ofL_size]; exact itoL_len lv
  rw [← hs1]
  have hs9 : ¬ 9223372036854775807 < s1.size + 1 := by omega
  clear c61 hs1
  go_wp2_with fail
  refine (newDecR_any _ _ _ _ _ _ (by omega)).mono ?_
  rintro e w8 ⟨g, rfl, hg, hgs, hb8⟩
  have HR8 := Lib.hid (HR6.out.up hb8)
  have HC8 := Lib.hid (HC6.out.up hb8)
  have HB8 := Lib.hid (HB6.out.trans (hb8.mono (Nat.le_of_lt hnd6)))
  have HG8 := Lib.hid hg
  have hndg : nd ≤ g := by omega
  have c80 : w8.cell? ⟨r, 0, none⟩ = some (.slice A4 l.length c4) := by rw [HC8.out.cell]; rfl
  clear hg hb8 HR6 HC6 HB6
  go_wp2_with fail
  refine (setNumBits_any _ _ _ g nd _ (l.length : Int) _ _ w8 HG8.out hndg).mono ?_
  rintro e w9 ⟨rfl, hw9, hg9, hb9⟩
  have hr9 : RdT w9 5 (.slice (some ⟨b5, 0, none⟩) n5 n5) (wv8 (bytesZ l)) := by
    rw [hw9]; exact HR8.out.far (p := ⟨g, 1, none⟩) HG8.out (by decide) _
  have HF := Lib.hid (And.intro hg9 (And.intro hr9 (HB8.out.trans hb9)))
  clear hw9 hg9 hb9 hr9 HG8 HR8 HB8 HC8 c80
  go_wp2_with fail
  go_ret2
  exact ⟨.inl ⟨l, tx, g, b5, n5, _, _, HO.out, HX.out, rfl, HF.out.1, HF.out.2.1, hn5⟩, HF.out.2.2⟩
end Go.Proofs.YtopfdmmimgnciaaGreatDoor
namespace Go.Proofs.YtopfdmmimgnciaaGreatDoor
open Go.RowKit

set_option maxRecDepth 100000 in
theorem decodedE_any (t : TypeId) (x : Value) (w : World) : Calls Tryz.prog 21 #[.pointer none, .iface t x] w fun e w' => e = .returned (.tuple #[.agg zImp, .bool false]) ∧ Below w.heap.size w w' := by
  have HZ := Lib.hid (Blk.fresh w 35 zImp)
  go_enter Tryz.func21, Tryz.ntmps21
  go_wp2_with fail
  refine bodyPost_ret (cell_back1 rfl _ _ _ w.heap.size rfl zImp (.bool false) rfl (run_loadVar_row _ _ _ _ _ _ _ HZ.out Tryz.underlying35 rfl (by kernel_rfl))) rfl ?_
  exact ⟨rfl, bal (brf w) _⟩
set_option maxRecDepth 100000 in
set_option maxHeartbeats 4000000 in
theorem azDecodeG_any (c : Bool) (L Dn : Nat) (v : Value) (rows : List (List Bool)) (pre : List Bool) (E0 : List Nat) (w : World) (hv : RowsT w v rows) (hH : rows.length = wholeN c L) (hr : ∀ r ∈ rows, r.length = wholeN c L)
    (hL1 : 1 ≤ L) (hL : L ≤ 32) (hk : CorAny (widN L) (fdL L) E0 Dn) (hpre : pre.length < widN L) (ht : takU c L (bitOf rows) L = pre ++ wbits (widN L) E0) :
    Calls Tryz.prog 10 #[v, .bool c, .int .i64 Dn, .int .i64 L] w fun e w' => ((∃ l t s2 A2 l2 c2, corG (widN L) (fdL L) E0 Dn = some l ∧ decG l.length l 0 0 = some t ∧ e = .returned (.tuple #[.agg (impZ (ofL t) s2 (.slice A2 l2 c2)), .bool true]) ∧ RdT w' 5 (.slice A2 l2 c2) (wv8 (bytesZ l))) ∨
      ((∀ l, corG (widN L) (fdL L) E0 Dn = some l → decG l.length l 0 0 = none) ∧ e = .returned (.tuple #[.agg zImp, .bool false]))) ∧ Below w.heap.size w w' := by
  have hwl := wholeN_le c L hL
  have hw1 := bal (brf w) (.cells zImp 35)
  have HG := Lib.hid (grid_any (wholeN c L) (wholeN c L) v rows (w.alloc (.cells zImp 35)) (hv.up hw1) hH hr (by omega) (by omega) (by omega) (by omega))
  have HB1 := Lib.hid hw1
  have HZ1 := Lib.hid (Blk.fresh w 35 zImp)
  have HDE := Lib.hid (fun m gm nd d q wq h1 h2 h3 h4 h5 h6 h7 h8 => decodeG_any c L Dn m gm nd d q (bitOf rows) pre E0 wq h1 h2 h3 h4 h5 h6 h7 h8 hL1 hL hk hpre ht)
  obtain ⟨b, o, cap, rfl, _, _, _⟩ := hv.at_ (by omega)
  clear hH hr hv hw1 hk hpre ht
  go_enter Tryz.func10, Tryz.ntmps10
  go_wp2_with fail
  refine HG.out.mono ?_
  rintro e w1 ⟨p, gm, rfl, hm, hp1, hg1, hb⟩
  have HM := Lib.hid hm
  have HZ2 := Lib.hid (HZ1.out.up hb)
  have HB2 := Lib.hid (bup HB1.out hb)
  clear hm hb HG HZ1 HB1
  go_wp2_with fail
  refine (newDecZ_any w1).mono ?_
  rintro e w2 ⟨rfl, hw2⟩
  have hb2 : Below w1.heap.size w1 w2 := by rw [hw2]; exact bal (brf w1) _
  have HN2 := Lib.hid (show Blk w2 w1.heap.size 92 #[.pointer none] by rw [hw2]; exact Blk.fresh w1 _ _)
  obtain ⟨hpl, hgl⟩ := HM.out.blt
  have HM2 := Lib.hid (HM.out.up hb2)
  have HZ3 := Lib.hid (HZ2.out.up hb2)
  have HB3 := Lib.hid (bup HB2.out hb2)
  obtain ⟨nd, hnd⟩ : ∃ x, x = w1.heap.size := ⟨_, rfl⟩
  rw [← hnd] at HN2 hpl hgl ⊢
  have hwn : w.heap.size ≤ nd := by rw [hnd]; exact HB2.out.size
  clear hw2 hb2 HM HZ2 HB2 hnd hp1 hg1
  go_wp2_with fail
  refine (detMade_any p c Dn L w2).mono ?_
  rintro e w3 ⟨d, q, rfl, hd, hq, hb3⟩
  have hn3 := HN2.out.up hb3
  have hdc := HDE.out p gm nd d q w3 (HM2.out.up hb3) hpl hgl hn3 hd hq (blk_ne hd hn3 (by decide)) (blk_ne hq hn3 (by decide))
  have HDC := Lib.hid hdc
  have HZ4 := Lib.hid (HZ3.out.up hb3)
  have HB4 := Lib.hid (bup HB3.out hb3)
  have hzn : w.heap.size < nd := Nat.lt_of_le_of_ne hwn (blk_ne HZ4.out hn3 (by decide))
  clear hdc hd hq hb3 hn3 HM2 HZ3 HB3 HDE HN2
  go_wp2_with fail
  refine HDC.out.mono ?_
  rintro e w4 ⟨⟨l, tx, g, b4, n4, nb, s2, ho, hx, rfl, hg4, hr4, hn4⟩ | ⟨ho, t4, u4, rfl⟩, hb4⟩
  case inr =>
    have HO := Lib.hid ho
    have HZ5 := Lib.hid (HZ4.out.below hb4 hzn)
    have HB5 := Lib.hid (HB4.out.trans (hb4.mono hwn))
    clear ho hb4 HDC HZ4 HB4
    go_wp2_with fail
    refine (decodedE_any t4 u4 w4).mono ?_
    rintro e w5 ⟨rfl, hb5⟩
    have HB6 := Lib.hid (bup HB5.out hb5)
    have HZ6 := Lib.hid (HZ5.out.up hb5)
    clear hb5 HB5 HZ5
    go_wp2_with (with_reducible refine stop_at (o := ⟨none, _, _, _, _, _⟩) ?_)
    refine Lib.hid ?_
    refine wpList_store_rowTo rfl 35 _ _ rfl rfl w.heap.size zImp rfl rfl 35 _ HZ6.out (by kernel_rfl) rfl (by simp [zImp, Value.oneCell']) ?_
    have K0 := Lib.hid (setRow_heap w5 w.heap.size _ zImp 35 (0, 0) HZ6.out)
    have HB9 : Hid (Below w.heap.size w (w5.setRow w.heap.size zImp)) := Lib.hid (below_setRow HB6.out (Nat.le_refl _) _)
    go_wp2
    refine bodyPost_ret (cell_back1 rfl _ _ _ w.heap.size rfl zImp (.bool false) rfl (run_loadVar_row _ _ _ _ _ _ _ K0.out Tryz.underlying35 rfl (by kernel_rfl))) rfl ?_
    exact ⟨.inr ⟨HO.out, rfl⟩, HB9.out⟩
  obtain ⟨bs, hbs⟩ : ∃ x, x = bytesZ l := ⟨_, rfl⟩
  rw [← hbs] at hr4
  have HBS := Lib.hid hbs
  have HO := Lib.hid (And.intro ho hx)
  clear hbs ho hx
  have hbl : bs.length ≤ 2147483647 := by
    obtain ⟨_, _, he, -, -⟩ := hr4.rd.form
    injection he with _ h2 _
    rw [wv8_len] at h2; omega
  have HZ5 := Lib.hid (HZ4.out.below hb4 hzn)
  have HB5 := Lib.hid (HB4.out.trans (hb4.mono hwn))
  have HG5 := Lib.hid hg4
  have HR5 := Lib.hid hr4
  clear hg4 hr4 hb4 HDC HZ4 HB4
  go_wp2_with fail
  refine (decoded0_any _ _ _ g nb (ofL tx) s2 bs w4 HG5.out HR5.out hbl).mono ?_
  rintro e w5 ⟨hb5, A2, l2, c2, rfl, hr5⟩
  have HR6 := Lib.hid hr5
  clear hr5
  have HB6 := Lib.hid (bup HB5.out hb5)
  have HZ6 := Lib.hid (HZ5.out.up hb5)
  clear hb5 HB5 HZ5 HG5 HR5
  go_wp2_with (with_reducible refine stop_at (o := ⟨none, _, _, _, _, _⟩) ?_)
  refine Lib.hid ?_
  refine wpList_store_rowTo rfl 35 _ _ rfl rfl w.heap.size (impZ (ofL tx) s2 (.slice A2 l2 c2)) rfl rfl 35 _ HZ6.out (by kernel_rfl) rfl (by simp [impZ, Value.oneCell']) ?_
  have K0 := Lib.hid (setRow_heap w5 w.heap.size _ (impZ (ofL tx) s2 (.slice A2 l2 c2)) 35 (0, 0) HZ6.out)
  have HB9 : Hid (Below w.heap.size w (w5.setRow w.heap.size (impZ (ofL tx) s2 (.slice A2 l2 c2)))) := Lib.hid (below_setRow HB6.out (Nat.le_refl _) _)
  go_wp2
  refine bodyPost_ret (cell_back1 rfl _ _ _ w.heap.size rfl (impZ (ofL tx) s2 (.slice A2 l2 c2)) (.bool true) rfl (run_loadVar_row _ _ _ _ _ _ _ K0.out Tryz.underlying35 rfl (by kernel_rfl))) rfl ?_
  exact ⟨.inl ⟨l, tx, s2, A2, l2, c2, HO.out.1, HO.out.2, rfl, by rw [← HBS.out]; exact HR6.out.setRow HZ6.out (by decide) _⟩, HB9.out⟩
end Go.Proofs.YtopfdmmimgnciaaGreatDoor
namespace Go.Proofs.YtopfdmmimgnciaaGreatDoor
open Go.RowKit

theorem doorG_any (c : Bool) (L p gm : Nat) (f : Nat → Nat → Bool) (w : World) (hm : MatAt w p gm (wholeN c L) (wholeN c L) f) (hL1 : 1 ≤ L) (hL : L ≤ 32) :
    Calls Tryz.prog 29 #[.pointer (some ⟨p, 0, none⟩), .bool c, .int .i64 (L : Nat)] w fun e w' => ∃ v', e = .returned v' ∧ RdT w' 4 v' (bv (takU c L f L)) ∧ Below w.heap.size w w' := by
  have HM := Lib.hid hm; clear hm
  go_enter Tryz.func29, Tryz.ntmps29
  go_wp2_with fail
  refine (detMade_any p c 0 L w).mono ?_
  rintro e w1 ⟨r, q, rfl, hr, -, hb⟩
  have HB := Lib.hid hb; clear hb
  have H1 := Lib.hid (show w1.cell? ⟨r, 1, none⟩ = some (.bool c) by rw [hr.cell]; rfl)
  have H3 := Lib.hid (show w1.cell? ⟨r, 3, none⟩ = some (.int .i64 (L : Nat)) by rw [hr.cell]; rfl)
  clear hr
  go_wp2_with fail
  refine (extractZ_any c L p gm _ r f _ ((HM.out.up HB.out).up (bal (brf w1) _)) (by rw [(Blk.fresh w1 _ _).cell]; rfl) (cell_up H1.out (bal (brf w1) _)) (cell_up H3.out (bal (brf w1) _)) hL1 hL).mono ?_
  rintro e w2 ⟨v', rfl, hr, hb2⟩
  have HR := Lib.hid hr
  have HB2 := Lib.hid (bup HB.out (bup (bal (brf w1) _) hb2)); clear hr hb2
  go_wp2
  go_ret
  exact ⟨_, rfl, HR.out, HB2.out⟩
set_option maxRecDepth 100000 in
theorem azBitsG_any (c : Bool) (L : Nat) (v : Value) (rows : List (List Bool)) (w : World) (hv : RowsT w v rows) (hH : rows.length = wholeN c L) (hr : ∀ r ∈ rows, r.length = wholeN c L) (hL1 : 1 ≤ L) (hL : L ≤ 32) :
    Calls Tryz.prog 13 #[v, .bool c, .int .i64 (L : Nat)] w fun e w' => ∃ v', e = .returned v' ∧ RdT w' 4 v' (bv (takU c L (bitOf rows) L)) ∧ Below w.heap.size w w' := by
  have hwl := wholeN_le c L hL
  have HG := Lib.hid (grid_any (wholeN c L) (wholeN c L) v rows w hv hH hr (by omega) (by omega) (by omega) (by omega))
  obtain ⟨b, o, cap, rfl, _, _, _⟩ := hv.at_ (by omega)
  clear hH hr hv
  go_enter Tryz.func13, Tryz.ntmps13
  go_wp2_with fail
  refine HG.out.mono ?_
  rintro e w1 ⟨p, gm, rfl, hm, _, _, hb⟩
  have HB := Lib.hid hb; have HM := Lib.hid hm; clear hb hm
  go_wp2_with fail
  refine (doorG_any c L p gm _ _ HM.out hL1 hL).mono ?_
  rintro e w2 ⟨v', rfl, hr, hb2⟩
  have HR := Lib.hid hr
  have HB2 := Lib.hid (bup HB.out hb2); clear hr hb2
  go_wp2
  go_ret
  exact ⟨_, rfl, HR.out, HB2.out⟩
theorem highLevelG_any (p : Nat) (v : Value) (l : List Bool) (n : Nat) (o : Option (List UInt8)) (w : World) (hv : Rd w w.heap.size v (bv l)) (hn : l.length = n) (h2 : 2 ≤ n) (hmax : n ≤ 1000000) (hd : decG l.length l 0 0 = o) :
    Calls Tryz.prog 30 #[.pointer (some ⟨p, 0, none⟩), v] w fun e w' => ((∃ t, o = some t ∧ e = .returned (.tuple #[.string (ofL t), .nilIface])) ∨ (o = none ∧ ∃ s t u, e = .returned (.tuple #[.string s, .iface t u]))) ∧ Below w.heap.size w w' := by
  have HE := Lib.hid (encodedG_any p v l n o w hv hn h2 hmax hd)
  obtain ⟨A, cap, rfl, -, -⟩ := hv.form
  clear hn hd hv
  go_enter Tryz.func30, Tryz.ntmps30
  go_wp2_with fail
  refine HE.out.mono ?_
  rintro e w1 ⟨⟨t, ho, rfl⟩ | ⟨ho, s, t, u, rfl⟩, hb⟩
  · have HB := Lib.hid (And.intro ho hb); clear ho hb
    go_wp2
    go_ret2
    exact ⟨.inl ⟨t, HB.out.1, rfl⟩, HB.out.2⟩
  · have HB := Lib.hid (And.intro ho hb); clear ho hb
    go_wp2
    go_ret2
    exact ⟨.inr ⟨HB.out.1, _, _, _, rfl⟩, HB.out.2⟩
set_option maxRecDepth 100000 in
theorem azTextG_any (v : Value) (l : List Bool) (n : Nat) (o : Option (List UInt8)) (w : World) (hv : Rd w w.heap.size v (bv l)) (hn : l.length = n) (h2 : 2 ≤ n) (hmax : n ≤ 1000000) (hd : decG l.length l 0 0 = o) :
    Calls Tryz.prog 15 #[v] w fun e w' => ((∃ t, o = some t ∧ e = .returned (.tuple #[.string (ofL t), .bool true])) ∨ (o = none ∧ ∃ s, e = .returned (.tuple #[.string s, .bool false]))) ∧ Below w.heap.size w w' := by
  obtain ⟨i0, hi0, hz0, hz1, hz2⟩ := info_parts info_bool
  obtain ⟨A, cap, hvf, -, -⟩ := hv.form
  have HV := Lib.hid hv
  subst hvf
  have HN := Lib.hid hn; have HD := Lib.hid hd
  clear hv hn hd
  go_enter Tryz.func15, Tryz.ntmps15
  go_wp2_with fail
  refine (newDecZ_any _).mono ?_
  rintro e w1 ⟨rfl, hw1⟩
  have hb : Below w.heap.size w w1 := by rw [hw1]; exact bal (brf w) _
  have HB := Lib.hid hb; have HV1 := Lib.hid (HV.out.up hb); clear hb HV hw1
  go_wp2_with (with_reducible refine stop_at (o := ⟨some 9, _, _, _, _, _⟩) ?_)
  refine Lib.hid ?_
  refine list_app_rd _ rfl _ _ 42 rfl w1.heap.size 4 i0 _ 1 Tryz.underlying42 hi0 hz0 hz1 hz2 rfl _ 0 [] rfl (own_nil _ _ _) _ _ (bv l) rfl HV1.out (fun u hu => by simp only [bv, List.mem_map] at hu; obtain ⟨x, _, rfl⟩ := hu; rfl) (by rw [bv_len, HN.out]; unfold maxLen; omega) (by rw [bv_len, HN.out]; omega) (Nat.le_refl _) ?_
  intro v1 w2 ho1 hg1
  rw [List.nil_append] at ho1
  have HR := Lib.hid (Rd.of_own ho1)
  have HB2 : Hid (Below w1.heap.size w1 w2) := Lib.hid (below_grown (brf w1) hg1 (own_nil w1 w1.heap.size 4) (Nat.le_refl _))
  clear ho1 hg1 HV1
  go_wp2_with fail
  refine (highLevelG_any _ v1 l n o _ HR.out HN.out h2 hmax HD.out).mono ?_
  rintro e w3 ⟨⟨t, ho, rfl⟩ | ⟨ho, s, t, u, rfl⟩, hb3⟩
  · have HB3 := Lib.hid (And.intro ho (bup HB.out (bup HB2.out hb3))); clear ho hb3
    go_wp2
    go_ret2
    exact ⟨.inl ⟨t, HB3.out.1, rfl⟩, HB3.out.2⟩
  · have HB3 := Lib.hid (And.intro ho (bup HB.out (bup HB2.out hb3))); clear ho hb3
    go_wp2
    go_ret2
    exact ⟨.inr ⟨HB3.out.1, _, rfl⟩, HB3.out.2⟩
theorem doorBytes_any (v : Value) (l : List Bool) (w : World) (hv : Rd w w.heap.size v (bv l)) (hl : l.length ≤ 400000) :
    Calls Tryz.prog 31 #[v] w fun e w' => ∃ b n, e = .returned (.slice (some ⟨b, 0, none⟩) n n) ∧ RdT w' 5 (.slice (some ⟨b, 0, none⟩) n n) (wv8 (bytesZ l)) ∧ Below w.heap.size w w' := by
  have hcv := convert_any v l w hv hl
  obtain ⟨A1, c1, rfl, -, -⟩ := hv.form
  clear hv
  go_enter Tryz.func31, Tryz.ntmps31
  go_wp2_with fail
  refine hcv.mono ?_
  rintro e w1 ⟨b, n, rfl, -, hr, hb⟩
  have HB := Lib.hid (And.intro hr hb)
  clear hcv hr hb
  go_wp2
  go_ret
  exact ⟨b, n, rfl, HB.out.1, HB.out.2⟩
set_option maxRecDepth 100000 in
theorem azBytes_any (v : Value) (l : List Bool) (n : Nat) (w : World) (hv : Rd w w.heap.size v (bv l)) (hn : l.length = n) (hmax : n ≤ 400000) :
    Calls Tryz.prog 16 #[v] w fun e w' => ∃ b k, e = .returned (.slice (some ⟨b, 0, none⟩) k k) ∧ RdT w' 5 (.slice (some ⟨b, 0, none⟩) k k) (wv8 (bytesZ l)) ∧ Below w.heap.size w w' := by
  obtain ⟨i0, hi0, hz0, hz1, hz2⟩ := info_parts info_bool
  obtain ⟨A, cap, hvf, -, -⟩ := hv.form
  have HV := Lib.hid hv
  subst hvf
  have HN := Lib.hid hn
  clear hv hn
  go_enter Tryz.func16, Tryz.ntmps16
  go_wp2_with (with_reducible refine stop_at (o := ⟨some 4, _, _, _, _, _⟩) ?_)
  refine Lib.hid ?_
  refine list_app_rd _ rfl _ _ 42 rfl w.heap.size 4 i0 _ 1 Tryz.underlying42 hi0 hz0 hz1 hz2 rfl _ 0 [] rfl (own_nil _ _ _) _ _ (bv l) rfl HV.out (fun u hu => by simp only [bv, List.mem_map] at hu; obtain ⟨x, _, rfl⟩ := hu; rfl) (by rw [bv_len, HN.out]; unfold maxLen; omega) (by rw [bv_len, HN.out]; omega) (Nat.le_refl _) ?_
  intro v1 w2 ho1 hg1
  rw [List.nil_append] at ho1
  have HR := Lib.hid (RdT.of_own ho1)
  have HB2 : Hid (Below w.heap.size w w2) := Lib.hid (below_grown (brf w) hg1 (own_nil w w.heap.size 4) (Nat.le_refl _))
  clear ho1 hg1 HV
  have hcv := doorBytes_any v1 l w2 HR.out.rd (by rw [HN.out]; exact hmax)
  go_wp2_with fail
  refine hcv.mono ?_
  rintro e w3 ⟨b, k, rfl, hr, hb3⟩
  have HB3 := Lib.hid (And.intro hr (bup HB2.out hb3))
  clear hr hb3
  go_wp2
  go_ret
  exact ⟨b, k, rfl, HB3.out.1, HB3.out.2⟩
end Go.Proofs.YtopfdmmimgnciaaGreatDoor
