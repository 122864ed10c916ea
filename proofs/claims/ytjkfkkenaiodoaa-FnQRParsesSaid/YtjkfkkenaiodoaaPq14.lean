/-
  WALK: impl.QRParse.
-/
import Derived.Test.YtjkfkkenaiodoaaPq13
namespace Go.Proofs.Ytjkfkkenaiodoaa
open Go.RowKit

theorem byteTs_le (sg : List Seg) : ∀ t ∈ byteTs sg, t.length ≤ (textOf sg).length := by
  induction sg with
  | nil => intro t ht; simp [byteTs] at ht
  | cons a r ih =>
    intro t ht
    have e : (textOf (a :: r)).length = a.2.length + (textOf r).length := by simp [textOf]
    have e2 : t ∈ byteTs r ∨ t = a.2 := by
      unfold byteTs at ht ⊢
      rw [List.filter_cons] at ht
      split at ht
      · rw [List.map_cons, List.mem_cons] at ht
        rcases ht with h | h
        · exact .inr h
        · exact .inl h
      · exact .inl ht
    rcases e2 with h | rfl
    · have := ih t h; omega
    · omega
theorem byteTs_len (sg : List Seg) : (byteTs sg).length ≤ sg.length := by
  unfold byteTs
  rw [List.length_map]
  exact List.length_filter_le ..
set_option maxRecDepth 100000 in
set_option maxHeartbeats 4000000 in
theorem qrParse_any (v : Value) (bs : List Nat) (ver lv : Nat) (R : Nat × List Seg) (w : World) (hv : Rd w w.heap.size v (wv8 bs)) (hbs : ∀ x ∈ bs, x < 256) (hl : bs.length ≤ 2147483647) (h1 : 1 ≤ ver) (h2 : ver ≤ 40) (hlv : lv < 4)
    (hR : segsF bs ver (8 * bs.length + 1) 0 [] = R) (hR2 : R.1 ≠ 2) :
    Calls Try.prog 8 #[v, .int .i64 ver, .int .i64 lv] w fun e w' => Below w.heap.size w w' ∧ ((R.1 = 1 ∧ e = .returned (.tuple #[.agg zImp, .bool false])) ∨
      (R.1 = 0 ∧ ∃ raw segs, e = .returned (.tuple #[impC (ofL (textOf R.2)) raw segs (lvS lv), .bool true]) ∧ RdT w' 5 raw (wv8 bs) ∧ RdBB w' segs (byteTs R.2))) := by
  obtain ⟨i0, hi0, hz0, hz1, hz2⟩ := info_parts info_u8P
  have HD := Lib.hid hv
  have HBS := Lib.hid hbs
  have HR := Lib.hid hR
  have HR2 := Lib.hid hR2
  have HLV := Lib.hid hlv
  clear hv hbs hR hR2 hlv
  go_enter Try.func8, Try.ntmps8
  go_wp2_with fail
  refine (getVersion_yes ver _ h1 h2).mono ?_
  rintro e w1 ⟨p, rfl, hve, hb⟩
  have HB1 := Lib.hid (bup (bal (brf w) (.cells zImp 31)) hb)
  have HZ1 := Lib.hid (Blk.up (Blk.fresh w 31 zImp) hb)
  have HV1 := Lib.hid hve
  have HD1 := Lib.hid (HD.out.up HB1.out)
  clear hb hve HD
  go_wp2_with (with_reducible refine stop_at (o := ⟨some 19, _, _, _, _, _⟩) ?_)
  refine Lib.hid ?_
  refine list_app_rd _ rfl _ _ _ rfl w1.heap.size 5 i0 _ 1 Try.underlying22 hi0 hz0 hz1 hz2 rfl _ 0 [] rfl (own_nil _ _ _) _ _ (wv8 bs) rfl HD1.out (fun u hu => by simp [wv8] at hu; obtain ⟨x, _, rfl⟩ := hu; rfl) (by rw [wv8_len]; unfold maxLen; omega) (by rw [wv8_len]; omega) (Nat.le_refl _) ?_
  intro v1 w2 ho1 hg1
  rw [List.nil_append, Nat.zero_add] at ho1
  obtain ⟨A1, cp1, hv1, -, -⟩ := (RdT.of_own ho1).rd.form
  obtain ⟨l1, hl1⟩ : ∃ x, x = (wv8 bs).length := ⟨_, rfl⟩
  rw [← hl1] at hv1
  subst hv1
  have hbw : Below w1.heap.size w1 w2 := below_grown (brf w1) hg1 (own_nil _ _ 5) (Nat.le_refl _)
  have HRW := Lib.hid (RdT.of_own ho1)
  have HB2 := Lib.hid (bup HB1.out hbw)
  have HZ2 := Lib.hid (HZ1.out.up hbw)
  have HV2 := Lib.hid (HV1.out.up hbw)
  clear ho1 hg1 hl1 hbw HD1 HB1 HZ1 HV1
  go_wp2_with fail
  refine (decode_any A1 l1 cp1 bs p ver lv R w2 HRW.out.rdB HBS.out hl HV2.out HLV.out HR.out HR2.out).mono ?_
  rintro e w3 ⟨hb3, ⟨hr1, t, x, rfl⟩ | ⟨hr0, g, A2, m, c2, us, r, rfl, hg, how, hbg⟩⟩
  · have HRN := Lib.hid hr1
    have HB3 := Lib.hid (bup HB2.out hb3)
    have HZ3 := Lib.hid (HZ2.out.up hb3)
    clear hb3 hr1 HB2 HZ2 HV2 HRW
    go_wp2_with fail
    refine (decoded_no _ _ _ _).mono ?_
    rintro e w4 ⟨rfl, hb4⟩
    have HB4 := Lib.hid (bup HB3.out hb4)
    have HZ4 := Lib.hid (HZ3.out.up hb4)
    clear hb4 HB3 HZ3
    -- the struct zImp is stored in the result's cell; false = what is told
    go_wp2_with (with_reducible refine stop_at (o := ⟨none, _, _, _, _, _⟩) ?_)
    refine Lib.hid ?_
    refine wpList_store_rowTo rfl 31 _ _ rfl rfl w.heap.size (zImp) rfl rfl 31 _ HZ4.out (by kernel_rfl) rfl (by simp [zImp, Value.oneCell']) ?_
    have HO9 := Lib.hid (Onl.row w4 w.heap.size (zImp))
    have K0 := Lib.hid (setRow_heap w4 w.heap.size _ (zImp) 31 (0, 0) HZ4.out)
    have HB9 : Hid (Below w.heap.size w (w4.setRow w.heap.size (zImp))) := Lib.hid (HO9.out.below _ _ HB4.out (Nat.le_refl _) HB4.out.size)
    go_wp2
    refine bodyPost_ret (cell_back1 rfl _ _ _ w.heap.size rfl (zImp) (.bool false) rfl (run_loadVar_row _ _ _ _ _ _ _ K0.out Try.underlying31 rfl (by kernel_rfl))) rfl ?_
    exact ⟨HB9.out, .inl ⟨HRN.out, rfl⟩⟩
  · have hRe : R = (0, R.2) := by rw [← hr0]
    have hsz := segsF_text bs ver (8 * bs.length + 1) 0 [] R.2 (by rw [HR.out]; exact hRe) (Nat.le_refl _) (Nat.le_refl _) (fun s hs => by cases hs) (Nat.zero_le _)
    have hbt := byteTs_le R.2
    have hbn := byteTs_len R.2
    have hm1 := how.1
    have hm2 := hbg.1
    have hmm : m ≤ 100000000000 := by omega
    have HT : Hid (∀ t ∈ byteTs R.2, t.length ≤ 100000000000) := Lib.hid (fun t ht => by have := hbt t ht; omega)
    have HRN := Lib.hid hr0
    have HB3 := Lib.hid (bup HB2.out hb3)
    have HZ3 := Lib.hid (HZ2.out.up hb3)
    have HRW3 := Lib.hid (HRW.out.up hb3)
    have HSG := Lib.hid (RdBB.of_own how (TsL.of_bg hbg))
    have HG := Lib.hid hg
    clear hb3 hr0 HB2 HZ2 HV2 HRW hg how hbg hm1 hm2 hbt hbn hsz hRe
    go_wp2_with fail
    refine (decoded_yes A1 A2 l1 cp1 m c2 g _ _ bs (byteTs R.2) w3 HG.out HRW3.out hl HSG.out hmm HT.out).mono ?_
    rintro e w4 ⟨hb4, raw, segs, rfl, hraw, hsegs⟩
    have HB4 := Lib.hid (bup HB3.out hb4)
    have HZ4 := Lib.hid (HZ3.out.up hb4)
    obtain ⟨Ar, cr, hvr, -, -⟩ := hraw.rd.form
    obtain ⟨lr, hlr⟩ : ∃ x, x = (wv8 bs).length := ⟨_, rfl⟩
    rw [← hlr] at hvr
    subst hvr
    obtain ⟨As, cs, hvs, -⟩ := hsegs.cells
    obtain ⟨ls, hls⟩ : ∃ x, x = (byteTs R.2).length := ⟨_, rfl⟩
    rw [← hls] at hvs
    subst hvs
    have HRA := Lib.hid hraw
    have HSE := Lib.hid hsegs
    clear hb4 HB3 HZ3 hraw hsegs HRW3 HSG HG hls hlr
    -- the struct #[.string (ofL (textOf R.2)), .slice Ar lr cr, .slice As ls cs, .string (lvS lv), .int .i64 0, .int .i64 (-1), .int .i64 (-1), .int .i64 1] is stored in the result's cell; true = what is told
    go_wp2_with (with_reducible refine stop_at (o := ⟨none, _, _, _, _, _⟩) ?_)
    refine Lib.hid ?_
    refine wpList_store_rowTo rfl 31 _ _ rfl rfl w.heap.size (#[.string (ofL (textOf R.2)), .slice Ar lr cr, .slice As ls cs, .string (lvS lv), .int .i64 0, .int .i64 (-1), .int .i64 (-1), .int .i64 1]) rfl rfl 31 _ HZ4.out (by kernel_rfl) rfl (by simp [zImp, Value.oneCell']) ?_
    have HO9 := Lib.hid (Onl.row w4 w.heap.size (#[.string (ofL (textOf R.2)), .slice Ar lr cr, .slice As ls cs, .string (lvS lv), .int .i64 0, .int .i64 (-1), .int .i64 (-1), .int .i64 1]))
    have K0 := Lib.hid (setRow_heap w4 w.heap.size _ (#[.string (ofL (textOf R.2)), .slice Ar lr cr, .slice As ls cs, .string (lvS lv), .int .i64 0, .int .i64 (-1), .int .i64 (-1), .int .i64 1]) 31 (0, 0) HZ4.out)
    have HB9 : Hid (Below w.heap.size w (w4.setRow w.heap.size (#[.string (ofL (textOf R.2)), .slice Ar lr cr, .slice As ls cs, .string (lvS lv), .int .i64 0, .int .i64 (-1), .int .i64 (-1), .int .i64 1]))) := Lib.hid (HO9.out.below _ _ HB4.out (Nat.le_refl _) HB4.out.size)
    go_wp2
    refine bodyPost_ret (cell_back1 rfl _ _ _ w.heap.size rfl (#[.string (ofL (textOf R.2)), .slice Ar lr cr, .slice As ls cs, .string (lvS lv), .int .i64 0, .int .i64 (-1), .int .i64 (-1), .int .i64 1]) (.bool true) rfl (run_loadVar_row _ _ _ _ _ _ _ K0.out Try.underlying31 rfl (by kernel_rfl))) rfl ?_
    have HR9 := Lib.hid (HRA.out.onl HO9.out HZ4.out (by decide))
    have HS9 := Lib.hid (HSE.out.onl HO9.out HZ4.out (by decide) (by decide))
    exact ⟨HB9.out, .inr ⟨HRN.out, _, _, rfl, HR9.out, HS9.out⟩⟩
end Go.Proofs.Ytjkfkkenaiodoaa
