/-
  WALKS: aztec's Decoder.Decode of words that are hurt.
-/
import Derived.Test.YtopfdmmimgnciaaGreatDoorW14
import Derived.Test.YtopfdmmimgnciaaGreatDoorW25
import Derived.Test.YtopfdmmimgnciaaGreatDoorW26
import Derived.Test.YtopfdmmimgnciaaGreatDoorW27
import Derived.Test.YtopfdmmimgnciaaGreatDoorW29
import Derived.Test.YtopfdmmimgnciaaGreatDoorW30
import Derived.Test.YtopfdmmimgnciaaGreatDoorW31
import Derived.Test.YtopfdmmimgnciaaGreatDoorW32
namespace Go.Proofs.YtopfdmmimgnciaaGreatDoor
open Go.RowKit

theorem corh_any (p d : Nat) (v : Value) (pre : List Bool) (E0 E : List Nat) (Dn L : Nat) (w : World) (hk : CorHurt (widN L) (fdL L) E0 E Dn) (hpre : pre.length < widN L) (hp : Blk w p 92 #[.pointer (some ⟨d, 0, none⟩)]) (hd : DetAt w d Dn L) (hv : RdT w 4 v (bv (pre ++ wbits (widN L) E0))) :
    Calls Tryz.prog 48 #[.pointer (some ⟨p, 0, none⟩), v] w fun e w' => ∃ r u, e = .returned (.tuple #[.pointer (some ⟨r, 0, none⟩), .nilIface]) ∧ Blk w' r 105 #[u, .int .i64 ((100 * (E.length - Dn) / E.length : Nat) : Int)] ∧ RdT w' 4 u (bv (unL (widN L) (E.take Dn))) ∧ Below w.heap.size w w' := by
  rcases clsL L with ⟨h1, h2, h3⟩ | ⟨h1, h2, h3, h4⟩ | ⟨h1, h2, h3, h4⟩ | ⟨h1, h2, h3⟩
  · rw [h1, h2] at hk; rw [h1] at hpre hv ⊢
    exact cor6h p d v pre E0 E Dn L w h3 hk hpre hp hd hv
  · rw [h1, h2] at hk; rw [h1] at hpre hv ⊢
    exact cor8h p d v pre E0 E Dn L w h3 h4 hk hpre hp hd hv
  · rw [h1, h2] at hk; rw [h1] at hpre hv ⊢
    exact cor10h p d v pre E0 E Dn L w h3 h4 hk hpre hp hd hv
  · rw [h1, h2] at hk; rw [h1] at hpre hv ⊢
    exact cor12h p d v pre E0 E Dn L w h3 hk hpre hp hd hv
theorem extractZ_any (c : Bool) (L p gm dd rr : Nat) (f : Nat → Nat → Bool) (w : World) (hm : MatAt w p gm (wholeN c L) (wholeN c L) f) (hd : w.cell? ⟨dd, 0, none⟩ = some (.pointer (some ⟨rr, 0, none⟩)))
    (h1 : w.cell? ⟨rr, 1, none⟩ = some (.bool c)) (h3 : w.cell? ⟨rr, 3, none⟩ = some (.int .i64 (L : Nat))) (hL1 : 1 ≤ L) (hL : L ≤ 32) :
    Calls Tryz.prog 47 #[.pointer (some ⟨dd, 0, none⟩), .pointer (some ⟨p, 0, none⟩)] w fun e w' => ∃ v', e = .returned v' ∧ RdT w' 4 v' (bv (takU c L f L)) ∧ Below w.heap.size w w' := by
  cases c
  · exact extract_full L p gm dd rr f w hm hd h1 h3 hL1 hL
  · exact extract_compact L p gm dd rr f w hm hd h1 h3 hL1 hL
theorem cntS_le (W : Nat) (ws : List Nat) : cntS W ws ≤ ws.length := by
  induction ws with
  | nil => simp [cntS]
  | cons x r ih =>
    have e : cntS W (x :: r) = (isStuf W x).toNat + cntS W r := by simp [cntS]
    have : (isStuf W x).toNat ≤ 1 := by cases isStuf W x <;> decide
    rw [e, List.length_cons]; omega
set_option maxRecDepth 100000 in
set_option maxHeartbeats 8000000 in
theorem decodeZ_any (c : Bool) (L Dn m gm nd d q : Nat) (f : Nat → Nat → Bool) (pre : List Bool) (E0 E : List Nat) (final : List UInt8) (w : World)
    (hm : MatAt w m gm (wholeN c L) (wholeN c L) f) (hmn : m < nd) (hgn : gm < nd) (hnd : Blk w nd 92 #[.pointer none])
    (hd : Blk w d 96 #[.pointer (some ⟨q, 0, none⟩), .bool c, .int .i64 Dn, .int .i64 L]) (hq : Blk w q 120 #[.pointer (some ⟨m, 0, none⟩), .slice none 0 0]) (hdn : d ≠ nd) (hqn : q ≠ nd)
    (hL1 : 1 ≤ L) (hL : L ≤ 32) (hk : CorHurt (widN L) (fdL L) E0 E Dn) (hpre : pre.length < widN L) (ht : takU c L f L = pre ++ wbits (widN L) E0) (hfin : ∃ g, dec g (unL (widN L) (E.take Dn)) 0 0 = some final) :
    Calls Tryz.prog 23 #[.pointer (some ⟨nd, 0, none⟩), .pointer (some ⟨d, 0, none⟩)] w fun e w' => ∃ g b n nb s2 bs, e = .returned (.tuple #[.pointer (some ⟨g, 0, none⟩), .nilIface]) ∧ Blk w' g 118 (drZ (some ⟨b, 0, none⟩) n n nb (ofL final) s2) ∧ RdT w' 5 (.slice (some ⟨b, 0, none⟩) n n) (wv8 bs) ∧ n ≤ 65536 ∧ Below nd w w' := by
  have hW := widN_le L
  obtain ⟨W, hWe⟩ : ∃ W, W = widN L := ⟨_, rfl⟩
  obtain ⟨l, hl⟩ : ∃ l, l = unL W (E.take Dn) := ⟨_, rfl⟩
  have hD1 := hk.d1
  have hD2 := hk.d2
  have hE2 := hk.len2
  have hll := unL_len W (E.take Dn) (by omega)
  have hcs := cntS_le W (E.take Dn)
  have htk : (E.take Dn).length = Dn := by rw [List.length_take]; omega
  rw [htk, ← hl] at hll
  rw [htk] at hcs
  have hm1 : Dn * W ≤ Dn * 12 := Nat.mul_le_mul_left Dn (by omega)
  have hm2 : Dn * 6 ≤ Dn * W := Nat.mul_le_mul_left Dn (by omega)
  have l2 : 2 ≤ l.length := by omega
  have l3 : l.length ≤ 30000 := by omega
  obtain ⟨lv, hlv⟩ : ∃ x, x = 100 * (E.length - Dn) / E.length := ⟨_, rfl⟩
  have hlv1 : lv < 100 := by rw [hlv, Nat.div_lt_iff_lt_mul (by omega)]; omega
  have hfin2 : ∃ g, dec g l 0 0 = some final := by rw [hl, hWe]; exact hfin
  -- the world behind the first store
  have c0 : w.cell? ⟨nd, 0, none⟩ = some (.pointer none) := by rw [hnd.cell]; rfl
  have f0 := hnd.frozen 0
  obtain ⟨w1, hw1⟩ : ∃ x, x = w.setCell ⟨nd, 0, none⟩ (.pointer (some ⟨d, 0, none⟩)) := ⟨_, rfl⟩
  have hb1 : Below nd w w1 := by rw [hw1]; exact (Below.refl nd w).setCell (p := ⟨nd, 0, none⟩) (Nat.le_refl _) _
  have hnd1 : Blk w1 nd 92 #[.pointer (some ⟨d, 0, none⟩)] := by rw [hw1]; exact hnd.put 0 _
  have hd1 : Blk w1 d 96 #[.pointer (some ⟨q, 0, none⟩), .bool c, .int .i64 Dn, .int .i64 L] := by rw [hw1]; exact hd.far (p := ⟨nd, 0, none⟩) hdn _
  have hq1 : Blk w1 q 120 #[.pointer (some ⟨m, 0, none⟩), .slice none 0 0] := by rw [hw1]; exact hq.far (p := ⟨nd, 0, none⟩) hqn _
  have hm1' := hm.below hb1 hmn hgn
  have cd0 : w1.cell? ⟨d, 0, none⟩ = some (.pointer (some ⟨q, 0, none⟩)) := by rw [hd1.cell]; rfl
  have hgb := getBits_any q (.pointer (some ⟨m, 0, none⟩)) w1 (by rw [hq1.cell]; rfl)
  have hex := extractZ_any c L m gm nd d f w1 hm1' (by rw [hnd1.cell]; rfl) (by rw [hd1.cell]; rfl) (by rw [hd1.cell]; rfl) hL1 hL
  rw [ht, ← hWe] at hex
  have HEX := Lib.hid hex
  have HND := Lib.hid hnd1
  have HDD := Lib.hid hd1
  have HB1 := Lib.hid hb1
  have HCO := Lib.hid (fun v wq (h1 : Blk wq nd 92 #[.pointer (some ⟨d, 0, none⟩)]) (h2 : DetAt wq d Dn L) h3 => corh_any nd d v pre E0 E Dn L wq hk hpre h1 h2 h3)
  rw [← hWe, ← hl, ← hlv] at HCO
  have HL9 := Lib.hid hnd.lt
  rw [hw1] at cd0
  have HW1 := Lib.hid hw1.symm
  clear hex hnd1 hd1 hq1 hb1 hm1' hk hpre ht hfin hm hd hq hnd hw1 hl hll hcs htk hm1 hm2 hlv hD2 hE2
  go_enter Tryz.func23, Tryz.ntmps23
  go_wp2_with fail
  rw [HW1.out]
  refine hgb.mono ?_
  rintro e w2 ⟨rfl, hw2⟩
  subst hw2
  clear hgb cd0 c0 f0
  go_wp2_with fail
  refine HEX.out.mono ?_
  rintro e w3 ⟨v3, rfl, hv3, hb3⟩
  have HV3 := Lib.hid hv3
  have HND3 := Lib.hid (HND.out.up hb3)
  have HDD3 := Lib.hid (HDD.out.up hb3)
  have HB3 := Lib.hid (HB1.out.trans (hb3.mono (Nat.le_of_lt HND.out.lt)))
  clear hv3 hb3 HEX HND HDD HB1
  go_wp2_with fail
  refine (HCO.out v3 w3 HND3.out ⟨_, _, HDD3.out⟩ HV3.out).mono ?_
  rintro e w4 ⟨r, u, rfl, hr4, hu4, hb4⟩
  have HR4 := Lib.hid hr4
  obtain ⟨A4, c4, rfl, -, hc4⟩ := hu4.rd.form
  rw [bv_len] at hr4 hu4 HR4
  have HU4 := Lib.hid hu4
  have HB4 := Lib.hid (HB3.out.trans (hb4.mono (Nat.le_of_lt HND3.out.lt)))
  have hnd4 := Nat.lt_of_lt_of_le HND3.out.lt hb4.size
  have c40 : w4.cell? ⟨r, 0, none⟩ = some (.slice A4 l.length c4) := by rw [hr4.cell]; rfl
  clear hr4 hu4 hb4 HCO HV3 HND3 HDD3 HB3
  go_wp2_with fail
  refine (convert_any _ l w4 HU4.out.rd (by omega)).mono ?_
  rintro e w5 ⟨b5, n5, rfl, hn5, hr5, hb5⟩
  have HR5 := Lib.hid hr5
  have HU5 := Lib.hid (HU4.out.up hb5)
  have HC5 := Lib.hid (HR4.out.up hb5)
  have HB5 := Lib.hid (HB4.out.trans (hb5.mono (Nat.le_of_lt hnd4)))
  have hnd5 := Nat.lt_of_lt_of_le hnd4 hb5.size
  have c50 : w5.cell? ⟨r, 0, none⟩ = some (.slice A4 l.length c4) := by rw [HC5.out.cell]; rfl
  clear hr5 hb5 HU4 HR4 HB4 c40
  go_wp2_with fail
  refine (encoded_any nd _ l l.length final w5 HU5.out.rd rfl l2 (by omega) hfin2).mono ?_
  rintro e w6 ⟨rfl, hb6⟩
  have HR6 := Lib.hid (HR5.out.up hb6)
  have HC6 := Lib.hid (HC5.out.up hb6)
  have HB6 := Lib.hid (HB5.out.trans (hb6.mono (Nat.le_of_lt hnd5)))
  have hnd6 := Nat.lt_of_lt_of_le hnd5 hb6.size
  have c61 : w6.cell? ⟨r, 1, none⟩ = some (.int .i64 (lv : Int)) := by rw [HC6.out.cell]; rfl
  clear hb6 HU5 HR5 HC5 HB5 c50 hfin2
  go_wp2_with fail
  refine (itoa_any lv hlv1 w6).mono ?_
  rintro e w7 ⟨rfl, hw7⟩
  subst hw7
  obtain ⟨s1, hs1⟩ : ∃ s, s = ofL (itoL lv) := ⟨_, rfl⟩
  have hs2 : s1.size ≤ 2 := by rw [hs1, ofL_size]; exact itoL_len lv
  rw [← hs1]
  have hs9 : ¬ 9223372036854775807 < s1.size + 1 := by omega
  clear c61 hs1
  go_wp2_with fail
  refine (newDecR_any _ _ _ _ _ _ (by omega)).mono ?_
  rintro e w8 ⟨g, rfl, hg, hgs, hb8⟩
  have HR8 := Lib.hid (HR6.out.up hb8)
  have HC8 := Lib.hid (HC6.out.up hb8)
  have HB8 := Lib.hid (HB6.out.trans (hb8.mono (Nat.le_of_lt hnd6)))
  have HG8 := Lib.hid hg
  have hndg : nd ≤ g := by omega
  have c80 : w8.cell? ⟨r, 0, none⟩ = some (.slice A4 l.length c4) := by rw [HC8.out.cell]; rfl
  clear hg hb8 HR6 HC6 HB6
  go_wp2_with fail
  refine (setNumBits_any _ _ _ g nd _ (l.length : Int) _ _ w8 HG8.out hndg).mono ?_
  rintro e w9 ⟨rfl, hw9, hg9, hb9⟩
  have hr9 : RdT w9 5 (.slice (some ⟨b5, 0, none⟩) n5 n5) (wv8 (bytesZ l)) := by
    rw [hw9]; exact HR8.out.far (p := ⟨g, 1, none⟩) HG8.out (by decide) _
  have HF := Lib.hid (And.intro hg9 (And.intro hr9 (HB8.out.trans hb9)))
  clear hw9 hg9 hb9 hr9 HG8 HR8 HB8 HC8 c80
  go_wp2_with fail
  go_ret2
  exact ⟨g, b5, n5, _, _, _, rfl, HF.out.1, HF.out.2.1, hn5, HF.out.2.2⟩
theorem newDecZ_any (w : World) : Calls Tryz.prog 22 #[] w fun e w' => e = .returned (.pointer (some ⟨w.heap.size, 0, none⟩)) ∧ w' = w.alloc (.cells #[.pointer none] 92) := by
  go_enter Tryz.func22, Tryz.ntmps22
  go_wp2
  go_ret
  exact ⟨rfl, rfl⟩
theorem blk_ne {w : World} {a b : Nat} {t t' : TypeId} {cs cs' : Array Value} (h1 : Blk w a t cs) (h2 : Blk w b t' cs') (h : t ≠ t') : a ≠ b := fun he => by
  subst he
  have h3 : some (Obj.cells cs t (0, 0)) = some (Obj.cells cs' t' (0, 0)) := h1.symm.trans h2
  injection h3 with h3
  injection h3 with _ h4
  exact h h4
set_option maxRecDepth 100000 in
set_option maxHeartbeats 4000000 in
theorem azDecodeZ_any (c : Bool) (L Dn : Nat) (v : Value) (rows : List (List Bool)) (pre : List Bool) (E0 E : List Nat) (final : List UInt8) (w : World) (hv : RowsT w v rows) (hH : rows.length = wholeN c L) (hr : ∀ r ∈ rows, r.length = wholeN c L)
    (hL1 : 1 ≤ L) (hL : L ≤ 32) (hk : CorHurt (widN L) (fdL L) E0 E Dn) (hpre : pre.length < widN L) (ht : takU c L (bitOf rows) L = pre ++ wbits (widN L) E0) (hfin : ∃ g, dec g (unL (widN L) (E.take Dn)) 0 0 = some final) :
    Calls Tryz.prog 10 #[v, .bool c, .int .i64 Dn, .int .i64 L] w fun e w' => ∃ s2 A2 l2 c2, e = .returned (.tuple #[.agg (impZ (ofL final) s2 (.slice A2 l2 c2)), .bool true]) ∧ Below w.heap.size w w' := by
  have hwl := wholeN_le c L hL
  have hw1 := bal (brf w) (.cells zImp 35)
  have HG := Lib.hid (grid_any (wholeN c L) (wholeN c L) v rows (w.alloc (.cells zImp 35)) (hv.up hw1) hH hr (by omega) (by omega) (by omega) (by omega))
  have HB1 := Lib.hid hw1
  have HZ1 := Lib.hid (Blk.fresh w 35 zImp)
  have HDE := Lib.hid (fun m gm nd d q wq h1 h2 h3 h4 h5 h6 h7 h8 => decodeZ_any c L Dn m gm nd d q (bitOf rows) pre E0 E final wq h1 h2 h3 h4 h5 h6 h7 h8 hL1 hL hk hpre ht hfin)
  obtain ⟨b, o, cap, rfl, _, _, _⟩ := hv.at_ (by omega)
  clear hH hr hv hw1 hk hpre ht hfin
  go_enter Tryz.func10, Tryz.ntmps10
  go_wp2_with fail
  refine HG.out.mono ?_
  rintro e w1 ⟨p, gm, rfl, hm, hp1, hg1, hb⟩
  have HM := Lib.hid hm
  have HZ2 := Lib.hid (HZ1.out.up hb)
  have HB2 := Lib.hid (bup HB1.out hb)
  clear hm hb HG HZ1 HB1
  go_wp2_with fail
  refine (newDecZ_any w1).mono ?_
  rintro e w2 ⟨rfl, hw2⟩
  have hb2 : Below w1.heap.size w1 w2 := by rw [hw2]; exact bal (brf w1) _
  have HN2 := Lib.hid (show Blk w2 w1.heap.size 92 #[.pointer none] by rw [hw2]; exact Blk.fresh w1 _ _)
  obtain ⟨hpl, hgl⟩ := HM.out.blt
  have HM2 := Lib.hid (HM.out.up hb2)
  have HZ3 := Lib.hid (HZ2.out.up hb2)
  have HB3 := Lib.hid (bup HB2.out hb2)
  obtain ⟨nd, hnd⟩ : ∃ x, x = w1.heap.size := ⟨_, rfl⟩
  rw [← hnd] at HN2 hpl hgl ⊢
  have hwn : w.heap.size ≤ nd := by rw [hnd]; exact HB2.out.size
  clear hw2 hb2 HM HZ2 HB2 hnd hp1 hg1
  go_wp2_with fail
  refine (detMade_any p c Dn L w2).mono ?_
  rintro e w3 ⟨d, q, rfl, hd, hq, hb3⟩
  have hn3 := HN2.out.up hb3
  have hdc := HDE.out p gm nd d q w3 (HM2.out.up hb3) hpl hgl hn3 hd hq (blk_ne hd hn3 (by decide)) (blk_ne hq hn3 (by decide))
  have HDC := Lib.hid hdc
  have HZ4 := Lib.hid (HZ3.out.up hb3)
  have HB4 := Lib.hid (bup HB3.out hb3)
  have hzn : w.heap.size < nd := Nat.lt_of_le_of_ne hwn (blk_ne HZ4.out hn3 (by decide))
  clear hdc hd hq hb3 hn3 HM2 HZ3 HB3 HDE HN2
  go_wp2_with fail
  refine HDC.out.mono ?_
  rintro e w4 ⟨g, b4, n4, nb, s2, bs, rfl, hg4, hr4, hn4, hb4⟩
  have hbl : bs.length ≤ 2147483647 := by
    obtain ⟨_, _, he, -, -⟩ := hr4.rd.form
    injection he with _ h2 _
    rw [wv8_len] at h2; omega
  have HZ5 := Lib.hid (HZ4.out.below hb4 hzn)
  have HB5 := Lib.hid (HB4.out.trans (hb4.mono hwn))
  have HG5 := Lib.hid hg4
  have HR5 := Lib.hid hr4
  clear hg4 hr4 hb4 HDC HZ4 HB4
  go_wp2_with fail
  refine (decoded0_any _ _ _ g nb (ofL final) s2 bs w4 HG5.out HR5.out hbl).mono ?_
  rintro e w5 ⟨hb5, A2, l2, c2, rfl⟩
  have HB6 := Lib.hid (bup HB5.out hb5)
  have HZ6 := Lib.hid (HZ5.out.up hb5)
  clear hb5 HB5 HZ5 HG5 HR5
  go_wp2_with (with_reducible refine stop_at (o := ⟨none, _, _, _, _, _⟩) ?_)
  refine Lib.hid ?_
  refine wpList_store_rowTo rfl 35 _ _ rfl rfl w.heap.size (impZ (ofL final) s2 (.slice A2 l2 c2)) rfl rfl 35 _ HZ6.out (by kernel_rfl) rfl (by simp [impZ, Value.oneCell']) ?_
  have K0 := Lib.hid (setRow_heap w5 w.heap.size _ (impZ (ofL final) s2 (.slice A2 l2 c2)) 35 (0, 0) HZ6.out)
  have HB9 : Hid (Below w.heap.size w (w5.setRow w.heap.size (impZ (ofL final) s2 (.slice A2 l2 c2)))) := Lib.hid (below_setRow HB6.out (Nat.le_refl _) _)
  go_wp2
  refine bodyPost_ret (cell_back1 rfl _ _ _ w.heap.size rfl (impZ (ofL final) s2 (.slice A2 l2 c2)) (.bool true) rfl (run_loadVar_row _ _ _ _ _ _ _ K0.out Tryz.underlying35 rfl (by kernel_rfl))) rfl ?_
  exact ⟨s2, A2, l2, c2, rfl, HB9.out⟩
end Go.Proofs.YtopfdmmimgnciaaGreatDoor
