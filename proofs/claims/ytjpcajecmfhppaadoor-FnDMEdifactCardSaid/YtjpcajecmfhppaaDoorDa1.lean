/-
  WALK: decodeAsciiSegment of Data Matrix.
-/
import Derived.Test.YtjpcajecmfhppaaDoorSrc
import Derived.Test.YtjpcajecmfhppaaDoorDc2
import Derived.Test.YtjpcajecmfhppaaDoorIto
namespace Go.Proofs.YtjpcajecmfhppaaDoor
open Go.RowKit

/-- How far the source is read. -/
def posOf (w : World) (p : Nat) : Nat := (match w.cell? ⟨p, 1, none⟩ with | some (.int _ q) => 8 * q.toNat | _ => 0) + (match w.cell? ⟨p, 2, none⟩ with | some (.int _ o) => o.toNat | _ => 0)
theorem posOf_at {w : World} {p pos : Nat} {sv : Value} (h : SrcAt w p sv pos) : posOf w p = pos := by
  have c1 : w.cell? ⟨p, 1, none⟩ = some (.int .i64 ((pos / 8 : Nat) : Int)) := by rw [Blk.cell h]; rfl
  have c2 : w.cell? ⟨p, 2, none⟩ = some (.int .i64 ((pos % 8 : Nat) : Int)) := by rw [Blk.cell h]; rfl
  unfold posOf
  rw [c1, c2]
  simp only [Int.toNat_natCast]
  omega
theorem avail_src {w0 : World} {B p : Nat} {sv : Value} {bs : List Nat} (h : SrcOk w0 B p sv bs) (pos : Nat) (w : World) (hb : Below B w0 w) (hBw : B ≤ w.heap.size) (hs : SrcAt w p sv pos) (hp : pos ≤ 8 * bs.length) :
    Calls Tryd.prog 30 #[.pointer (some ⟨p, 0, none⟩)] w fun e w' => e = .returned (.int .i64 ((8 * bs.length - pos : Nat) : Int)) ∧ SrcAt w' p sv pos ∧ Onl p w w' ∧ Below B w0 w' := by
  have e1 : 8 * (pos / 8) + pos % 8 = pos := by omega
  refine (available_any p (pos / 8) (pos % 8) sv bs w (h.bs hb hs) h.len (by omega) (by omega)).mono ?_
  rintro e w' ⟨rfl, hbs, ho⟩
  rw [e1]
  exact ⟨rfl, hbs.head, ho, ho.below B w0 hb h.le hBw⟩
/-- What the walk of a segment ends with: the bytes t are behind res, and words are read up to q2. -/
structure SegQ (w0 w : World) (B p base : Nat) (sv v : Value) (l : List UInt8) (q2 : Nat) (w' : World) (v' : Value) : Prop where
  below : Below B w0 w'
  size : w.heap.size ≤ w'.heap.size
  src : SrcAt w' p sv (8 * q2)
  own : w'.ownsRow base 5 1 v' l.length (bl l)
  fr : Fr w p v w' v'
theorem drop_cons {bs r : List Nat} {j c : Nat} (h : c :: r = bs.drop j) : j < bs.length ∧ bs.getD j 0 = c ∧ bs.drop (j + 1) = r := by
  have hl : j < bs.length := by
    rcases Nat.lt_or_ge j bs.length with h1 | h1
    · exact h1
    · rw [List.drop_eq_nil_of_le h1] at h; cases h
  rw [List.drop_eq_getElem_cons hl] at h
  injection h with h1 h2
  exact ⟨hl, by rw [List.getD, List.getElem?_eq_getElem hl, h1]; rfl, h2.symm⟩
theorem own_lenEq {w : World} {base n m : Nat} {e : TypeId} {v : Value} {xs : List Value} (h : w.ownsRow base e 1 v n xs) (hm : n = m) : w.ownsRow base e 1 v m xs := by rw [← hm]; exact h
theorem results_tmp4 {fn : Func} {t u v x : Tmp} (h : fn.results = #[.tmp t, .tmp u, .tmp v, .tmp x]) (tmps : Array Value) (P : Program) (w : World) :
    (results fn tmps).run P w = .ok (.tuple #[tmps.getD t undef, tmps.getD u undef, tmps.getD v undef, tmps.getD x undef]) w := by
  simp [results, h]
set_option maxRecDepth 100000 in
set_option maxHeartbeats 4000000 in
theorem decAsc_any {w0 : World} {B p : Nat} {sv : Value} {bs : List Nat} (h : SrcOk w0 B p sv bs) (q base n : Nat) (v tv mv : Value) (res t : List UInt8) (k m : Nat) (w : World) (hb : Below B w0 w) (hs : SrcAt w p sv (8 * q)) (ha : Asc (bs.drop q) t k m)
    (ho : w.ownsRow base 5 1 v n (bl res)) (hn : n = res.length) (hBb : B ≤ base) (hbw : base ≤ w.heap.size) (hn2 : n + t.length ≤ 100000000000) :
    Calls Tryd.prog 31 #[.pointer (some ⟨p, 0, none⟩), v, tv, mv] w fun e w' => ∃ v', e = .returned (.tuple #[.int .i64 (m : Int), v', tv, .nilIface]) ∧ SegQ w0 w B p base sv v (res ++ t) (q + k) w' v' := by
  obtain ⟨i0, hi0, hz0, hz1, hz2⟩ := info_parts info_u8P
  have hl := h.len
  have hlt := h.lt
  have HLT := Lib.hid hlt
  have hq : q ≤ bs.length := by have := ha.pos; rw [List.length_drop] at this; omega
  have HK := Lib.hid h
  have HB := Lib.hid hb
  have HS := Lib.hid hs
  have HO := Lib.hid ho
  have HA := Lib.hid ha
  have HN := Lib.hid hn
  obtain ⟨vA, vcp, hvf, -, -⟩ := (RdT.of_own ho).rd.form
  obtain ⟨vn, hvn⟩ : ∃ x, x = (bl res).length := ⟨_, rfl⟩
  rw [← hvn] at hvf
  subst hvf
  clear h hb hs ho ha hn hvn hlt
  go_enter Tryd.func31, Tryd.ntmps31
  go_wp2_with fail
  go_loopw [1, 2, 12] (fun ov rv uv wr => ∃ (j k' n' : Nat) (out t' : List UInt8), rv = tv ∧ uv = .bool false ∧ j ≤ bs.length ∧ n' + t'.length ≤ 100000000000 ∧ Hid (wr.ownsRow base 5 1 ov n' (bl (res ++ out))) ∧ Hid (n' = (res ++ out).length) ∧ Hid (SrcAt wr p sv (8 * j)) ∧ Hid (Asc (bs.drop j) t' k' m) ∧ Hid (out ++ t' = t ∧ j + k' = q + k) ∧ Hid (Below B w0 wr) ∧ Hid (w.heap.size ≤ wr.heap.size) ∧ Hid (Fr w p (.slice vA vn vcp) wr ov)) (fun _ _ _ wr => 8 * bs.length + 8 - posOf wr p)
  case atStart => exact ⟨q, k, n, [], t, rfl, rfl, hq, hn2, by simpa using HO, by simpa using HN, HS, HA, Lib.hid ⟨rfl, rfl⟩, HB, Lib.hid (Nat.le_refl _), Lib.hid (Fr.refl w p _)⟩
  case round =>
    clear HO HN HS HA HB hn2 hq
    obtain ⟨j, k', n', out, t', rfl, rfl, hj, hn2, HOr, HNr, HSr, HA, HOT, HBr, HZr, HFr⟩ := hrel
    rename World => wr
    obtain ⟨ws, hws⟩ : ∃ ws, ws = bs.drop j := ⟨_, rfl⟩
    have hA := HA.out
    rw [← hws] at hA
    have hjl : j < bs.length := by have := hA.pos; rw [hws, List.length_drop] at this; omega
    have HPW : Hid (posOf wr p = 8 * j) := Lib.hid (posOf_at HSr.out)
    obtain ⟨c, hc⟩ : ∃ c, c = bs.getD j 0 := ⟨_, rfl⟩
    have hc8 : c < 256 := by rw [hc, List.getD, List.getElem?_eq_getElem hjl]; exact HLT.out _ (List.getElem_mem hjl)
    have HC8 : Hid (bs.getD j 0 = c ∧ bs.getD j 0 < 256) := Lib.hid ⟨hc.symm, by rw [← hc]; exact hc8⟩
    have HWS := Lib.hid hws
    have HA2 := Lib.hid hA
    clear hA hws hc HA
    -- bits.Available() at position 8 * j: r old letter, a new letter; R = how many
    have hav := avail_src HK.out (8 * j) wr HBr.out (by have := HZr.out; omega) HSr.out (by omega)
    obtain ⟨Ra, hRa⟩ : ∃ x, x = 8 * bs.length - (8 * j) := ⟨_, rfl⟩
    rw [← hRa] at hav
    have hRpa : 0 < Ra ∧ Ra ≤ 8 * bs.length := by omega
    have HRa := Lib.hid hRa
    clear hRa
    go_wp2_with fail
    refine hav.mono ?_
    rintro e wa ⟨rfl, hs2, ho2, hb2⟩
    have HOa := Lib.hid (own_onl HOr.out ho2 HSr.out (by decide))
    have HSa := Lib.hid hs2
    have HBa := Lib.hid hb2
    have HZa : Hid (w.heap.size ≤ wa.heap.size) := Lib.hid (Nat.le_trans HZr.out ho2.size)
    have HFa := Lib.hid (HFr.out.read ho2)
    clear hs2 ho2 hb2 HOr HSr HBr HZr HFr hav
    -- the word c at place j is read: a old letter, b new letter
    have hrd : Calls Tryd.prog 44 #[.pointer (some ⟨p, 0, none⟩), .int .i64 8] wa fun e w' => e = .returned (.tuple #[.int .i64 ((c : Nat) : Int), .nilIface]) ∧ SrcAt w' p sv (8 * (j + 1)) ∧ Onl p wa w' ∧ Below B w0 w' := by
      have h9 := rdBits_yes HK.out (8 * j) 8 wa HBa.out (by have := HZa.out; omega) HSa.out (by decide) (by decide) (by omega)
      rw [rb_byte bs j HC8.out.2, HC8.out.1] at h9
      exact h9
    go_wp2_with fail
    refine hrd.mono ?_
    rintro e wb ⟨rfl, hs2, ho2, hb2⟩
    -- behind a reading: 8 bits, a = old letter, b = new letter, from the rintro's facts hs2 ho2 hb2 in world wb
    have HOb := Lib.hid (own_onl HOa.out ho2 HSa.out (by decide))
    have HSb := Lib.hid hs2
    have HBb := Lib.hid hb2
    have HZb : Hid (w.heap.size ≤ wb.heap.size) := Lib.hid (Nat.le_trans HZa.out ho2.size)
    have HFb := Lib.hid (HFa.out.read ho2)
    clear hs2 ho2 hb2 HOa HSa HBa HZa HFa hrd
    have hcas : (1 ≤ c ∧ c ≤ 128 ∧ m = 1 ∧ t' = [UInt8.ofNat (c - 1)] ∧ k' = 1) ∨ (c = 129 ∧ m = 0 ∧ t' = [] ∧ k' = 1) ∨ (∃ d t1 k1, d < 100 ∧ c = 130 + d ∧ t' = dg2 d ++ t1 ∧ k' = k1 + 1 ∧ Asc (bs.drop (j + 1)) t1 k1 m) ∨ (c = 230 ∧ m = 2 ∧ t' = [] ∧ k' = 1) ∨ (c = 240 ∧ m = 5 ∧ t' = [] ∧ k' = 1) := by
      have h9 := HA2.out
      have hcd := HC8.out.1
      have hws := HWS.out
      cases h9 with
      | one c' r h1 h2 => have h3 := drop_cons hws; exact .inl ⟨by omega, by omega, rfl, by rw [← hcd, h3.2.1], rfl⟩
      | pad r => have h3 := drop_cons hws; exact .inr (.inl ⟨by omega, rfl, rfl, rfl⟩)
      | two d r t1 k1 m' h1 h2 => have h3 := drop_cons hws; exact .inr (.inr (.inl ⟨d, t1, k1, h1, by omega, rfl, rfl, by rw [h3.2.2]; exact h2⟩))
      | c40 r => have h3 := drop_cons hws; exact .inr (.inr (.inr (.inl ⟨by omega, rfl, rfl, rfl⟩)))
      | edi r => have h3 := drop_cons hws; exact .inr (.inr (.inr (.inr ⟨by omega, rfl, rfl, rfl⟩)))
    clear HA2 HWS HC8 hRpa HRa
    rcases hcas with ⟨h1, h2, rfl, rfl, rfl⟩ | ⟨rfl, rfl, rfl, rfl⟩ | ⟨d, t1, k1, h1, hcd, rfl, rfl, hA1⟩ | ⟨rfl, rfl, rfl, rfl⟩ | ⟨rfl, rfl, rfl, rfl⟩
    · obtain ⟨y, hy⟩ : ∃ y, y = c - 1 := ⟨_, rfl⟩
      have e1 : (c : Int) - 1 = (y : Int) := by omega
      have hyb : y < 128 := by omega
      have HDG : Hid (bl [UInt8.ofNat (c - 1)] = [.int .u8 (y : Int)]) := Lib.hid (by rw [← hy]; exact bl_single _ (by omega))
      have HY := Lib.hid hy
      have hn3 : n' ≤ 100000000000 := by omega
      have hcp : 0 < c := h1
      clear hy
      -- one sign is appended: 41 = slot, y = its number, UInt8.ofNat (c - 1) = the sign, res ++ out = the list so far, n' = how many, 8 * (j + 1) = the position, b = old names' letter, c = new names' letter (HDG tells the sign)
      go_wp2_with (with_reducible refine stop_at (o := ⟨some 41, _, _, _, _, _⟩) ?_)
      refine Lib.hid ?_
      have hob := own_up HOb.out (bal (brf wb) (.cells #[.int .u8 (y : Int)] 5))
      refine list_app2 rfl _ _ _ rfl base 5 i0 _ 1 Tryd.underlying27 hi0 hz0 hz1 hz2 rfl _ (n') _ rfl hob _ _ [.int .u8 (y : Int)] rfl (Rd.one rfl _ _) (fun u hu => by simp at hu; subst hu; rfl) (by simp only [List.length_singleton]; unfold maxLen; omega) (by simp only [List.length_singleton]; omega) (by have := HZb.out; simp; omega) ?_
      intro vc wc ho1 hg1 hl1
      have HFc : Hid (Fr w p _ wc vc) := Lib.hid ((HFb.out.below (bal (brf wb) (.cells #[.int .u8 (y : Int)] 5))).app hg1 hl1)
      have HOc : Hid (wc.ownsRow base 5 1 vc (n' + 1) (bl (res ++ out ++ [UInt8.ofNat (c - 1)]))) := Lib.hid (by rw [bl_app, HDG.out]; exact ho1)
      have HSc : Hid (SrcAt wc p sv (8 * (j + 1))) := Lib.hid (Blk.grown (Blk.alloc HSb.out _) hg1 (own_ne hob (Blk.alloc HSb.out _) (by decide)))
      have HBc : Hid (Below B w0 wc) := Lib.hid (below_grown (HBb.out.alloc (by have := HZb.out; omega) _) hg1 (own_lessP hob hBb) (by have := HZb.out; simp; omega))
      have HZc : Hid (w.heap.size ≤ wc.heap.size) := Lib.hid (Nat.le_trans HZb.out (Nat.le_trans (by simp) hg1.size))
      clear ho1 hg1 hl1 hob HOb HSb HBb HZb HFb HDG
      have HOF : Hid (SegQ w0 w B p base sv (.slice vA vn vcp) (res ++ t) (q + k) wc vc) := Lib.hid ⟨HBc.out, HZc.out, by rw [← HOT.out.2]; exact HSc.out, own_lenEq (by rw [← HOT.out.1, ← List.append_assoc]; exact HOc.out) (by rw [← HOT.out.1, ← List.append_assoc, List.length_append, ← HNr.out]; rfl), HFc.out⟩
      clear HOc HSc HBc HZc HFc e1
      go_wp2_with fail
      (try simp only [Exit.inBlock, Exit.then])
      refine bodyPost_ret (results_tmp4 rfl _ _ _) rfl ?_
      exact ⟨_, rfl, HOF.out⟩
    · have HOF : Hid (SegQ w0 w B p base sv (.slice vA vn vcp) (res ++ t) (q + k) wb _) := Lib.hid ⟨HBb.out, HZb.out, by rw [← HOT.out.2]; exact HSb.out, own_lenEq (by rw [← HOT.out.1, List.append_nil]; exact HOb.out) (by rw [← HOT.out.1, List.append_nil]; exact HNr.out), HFb.out⟩
      clear HOb HSb HBb HZb HFb
      go_wp2_with fail
      (try simp only [Exit.inBlock, Exit.then])
      refine bodyPost_ret (results_tmp4 rfl _ _ _) rfl ?_
      exact ⟨_, rfl, HOF.out⟩
    · have HA1 := Lib.hid hA1
      have e1 : (c : Int) - 130 = (d : Int) := by omega
      have h3 : 130 ≤ c ∧ c ≤ 229 := by omega
      clear hcd
      have hi1 : (d : Int) < 100 := by omega
      have hdl : (dg2 d).length = 2 := rfl
      rw [List.length_append, hdl] at hn2
      clear hA1 hdl
      have hn3 : n' + 2 ≤ 100000000000 := by omega
      by_cases h10 : d < 10
      · have hi2 : (d : Int) < 10 := by omega
        have HDG : Hid (bl [UInt8.ofNat 48] = [.int .u8 (48 : Int)]) := Lib.hid (bl_single 48 (by decide))
        have HLE : Hid ([UInt8.ofNat 48] ++ itoL d = dg2 d) := Lib.hid (itoL_lo d h10)
        have hil : (itoL d).length ≤ 1 := by unfold itoL; rw [if_pos h10]; simp
        -- one sign is appended: 56 = slot, 48 = its number, UInt8.ofNat 48 = the sign, res ++ out = the list so far, n' = how many, 8 * (j + 1) = the position, b = old names' letter, c = new names' letter (HDG tells the sign)
        go_wp2_with (with_reducible refine stop_at (o := ⟨some 56, _, _, _, _, _⟩) ?_)
        refine Lib.hid ?_
        have hob := own_up HOb.out (bal (brf wb) (.cells #[.int .u8 (48 : Int)] 5))
        refine list_app2 rfl _ _ _ rfl base 5 i0 _ 1 Tryd.underlying27 hi0 hz0 hz1 hz2 rfl _ (n') _ rfl hob _ _ [.int .u8 (48 : Int)] rfl (Rd.one rfl _ _) (fun u hu => by simp at hu; subst hu; rfl) (by simp only [List.length_singleton]; unfold maxLen; omega) (by simp only [List.length_singleton]; omega) (by have := HZb.out; simp; omega) ?_
        intro vc wc ho1 hg1 hl1
        have HFc : Hid (Fr w p _ wc vc) := Lib.hid ((HFb.out.below (bal (brf wb) (.cells #[.int .u8 (48 : Int)] 5))).app hg1 hl1)
        have HOc : Hid (wc.ownsRow base 5 1 vc (n' + 1) (bl (res ++ out ++ [UInt8.ofNat 48]))) := Lib.hid (by rw [bl_app, HDG.out]; exact ho1)
        have HSc : Hid (SrcAt wc p sv (8 * (j + 1))) := Lib.hid (Blk.grown (Blk.alloc HSb.out _) hg1 (own_ne hob (Blk.alloc HSb.out _) (by decide)))
        have HBc : Hid (Below B w0 wc) := Lib.hid (below_grown (HBb.out.alloc (by have := HZb.out; omega) _) hg1 (own_lessP hob hBb) (by have := HZb.out; simp; omega))
        have HZc : Hid (w.heap.size ≤ wc.heap.size) := Lib.hid (Nat.le_trans HZb.out (Nat.le_trans (by simp) hg1.size))
        clear ho1 hg1 hl1 hob HOb HSb HBb HZb HFb HDG
        go_wp2_with fail
        -- Itoa of d, as bytes, is appended: c old letter, e and f new ones, res ++ out ++ [UInt8.ofNat 48] list so far, n' + 1 how many
        refine (itoa_any d h1 _).mono ?_
        rintro e wc ⟨rfl, rfl⟩
        obtain ⟨cv, we, hcv, hcr, hcb⟩ := conv_any (P := Tryd.prog) wc 9 27 5 (ofL (itoL d)) (u := .string) Tryd.underlying9 Tryd.underlying27 Tryd.underlying5 (by rw [ofL_size]; unfold maxLen; omega)
        rw [bytesOf_ofL] at hcr
        have HOe := Lib.hid (own_up HOc.out hcb)
        have HSe : Hid (SrcAt we p sv (8 * (j + 1))) := Lib.hid (Blk.up HSc.out hcb)
        have HBe : Hid (Below B w0 we) := Lib.hid (HBc.out.trans (hcb.mono (by have := HZc.out; omega)))
        have HZe : Hid (w.heap.size ≤ we.heap.size) := Lib.hid (Nat.le_trans HZc.out hcb.size)
        have HFe := Lib.hid (HFc.out.below hcb)
        have HRD := Lib.hid hcr
        clear hcr hcb HOc HSc HBc HZc HFc
        -- the bytes itoL d in the slice value cv (known by HRD : RdT wD u8 cv (bl itoL d)) are appended: 61 slot, res ++ out ++ [UInt8.ofNat 48] list so far, n' + 1 how many, 8 * (j + 1) position, e old, f new
        go_wp2_with (with_reducible refine stop_at (o := ⟨some 61, _, _, _, _, _⟩) ?_)
        refine Lib.hid ?_
        refine list_app2 rfl _ _ _ rfl base 5 i0 _ 1 Tryd.underlying27 hi0 hz0 hz1 hz2 rfl _ (n' + 1) _ rfl HOe.out _ _ (bl (itoL d)) rfl HRD.out (bl_one _) (by rw [bl_len]; unfold maxLen; omega) (by rw [bl_len]; omega) (by have := HZe.out; omega) ?_
        intro vf wf ho1 hg1 hl1
        have HFf : Hid (Fr w p _ wf vf) := Lib.hid (HFe.out.app hg1 hl1)
        have HOf : Hid (wf.ownsRow base 5 1 vf (n' + 1 + (itoL d).length) (bl (res ++ out ++ [UInt8.ofNat 48] ++ itoL d))) := Lib.hid (by rw [bl_app]; rw [bl_len] at ho1; exact ho1)
        have HSf : Hid (SrcAt wf p sv (8 * (j + 1))) := Lib.hid (Blk.grown HSe.out hg1 (own_ne HOe.out HSe.out (by decide)))
        have HBf : Hid (Below B w0 wf) := Lib.hid (below_grown HBe.out hg1 (own_lessP HOe.out hBb) (by have := HZe.out; omega))
        have HZf : Hid (w.heap.size ≤ wf.heap.size) := Lib.hid (Nat.le_trans HZe.out hg1.size)
        clear ho1 hg1 hl1 HOe HSe HBe HZe HFe HRD
        clear hcv
        have hout : res ++ out ++ [UInt8.ofNat 48] ++ itoL d = res ++ (out ++ dg2 d) := by
          rw [List.append_assoc, HLE.out, List.append_assoc]
        -- behind two digits: f letter, n' + 1 how many ahead of Itoa
        have HO9 : Hid (wf.ownsRow base 5 1 vf (n' + 2) (bl (res ++ (out ++ dg2 d)))) := Lib.hid (by
          have h9 := HOf.out
          rw [hout] at h9
          refine own_lenEq h9 ?_
          have h8 := congrArg List.length hout
          have h7 := HNr.out
          (try simp only [List.length_singleton] at h8)
          simp only [List.length_append, dg2, List.length_cons, List.length_nil] at h8 h7
          omega)
        have HN9 : Hid (n' + 2 = (res ++ (out ++ dg2 d)).length) := Lib.hid (by
          have h7 := HNr.out
          simp only [List.length_append, dg2, List.length_cons, List.length_nil] at h7 ⊢
          omega)
        have HOT9 : Hid (out ++ dg2 d ++ t1 = t ∧ j + 1 + k1 = q + k) := Lib.hid ⟨by rw [List.append_assoc]; exact HOT.out.1, by have := HOT.out.2; omega⟩
        clear hout HOf HNr HOT
        go_wp2_with fail
        go_roundw
        case rel => exact ⟨j + 1, k1, n' + 2, _, t1, rfl, rfl, hjl, by omega, HO9, HN9, HSf, HA1, HOT9, HBf, HZf, HFf⟩
        case measure => rw [posOf_at HSf.out, HPW.out]; omega
      · have hi2 : ¬ (d : Int) < 10 := by omega
        have HLE : Hid (itoL d = dg2 d) := Lib.hid (itoL_hi d h10)
        have hil : (itoL d).length ≤ 2 := itoL_len d
        go_wp2_with fail
        -- Itoa of d, as bytes, is appended: b old letter, e and f new ones, res ++ out list so far, n' how many
        refine (itoa_any d h1 _).mono ?_
        rintro e wb ⟨rfl, rfl⟩
        obtain ⟨cv, we, hcv, hcr, hcb⟩ := conv_any (P := Tryd.prog) wb 9 27 5 (ofL (itoL d)) (u := .string) Tryd.underlying9 Tryd.underlying27 Tryd.underlying5 (by rw [ofL_size]; unfold maxLen; omega)
        rw [bytesOf_ofL] at hcr
        have HOe := Lib.hid (own_up HOb.out hcb)
        have HSe : Hid (SrcAt we p sv (8 * (j + 1))) := Lib.hid (Blk.up HSb.out hcb)
        have HBe : Hid (Below B w0 we) := Lib.hid (HBb.out.trans (hcb.mono (by have := HZb.out; omega)))
        have HZe : Hid (w.heap.size ≤ we.heap.size) := Lib.hid (Nat.le_trans HZb.out hcb.size)
        have HFe := Lib.hid (HFb.out.below hcb)
        have HRD := Lib.hid hcr
        clear hcr hcb HOb HSb HBb HZb HFb
        -- the bytes itoL d in the slice value cv (known by HRD : RdT wD u8 cv (bl itoL d)) are appended: 61 slot, res ++ out list so far, n' how many, 8 * (j + 1) position, e old, f new
        go_wp2_with (with_reducible refine stop_at (o := ⟨some 61, _, _, _, _, _⟩) ?_)
        refine Lib.hid ?_
        refine list_app2 rfl _ _ _ rfl base 5 i0 _ 1 Tryd.underlying27 hi0 hz0 hz1 hz2 rfl _ (n') _ rfl HOe.out _ _ (bl (itoL d)) rfl HRD.out (bl_one _) (by rw [bl_len]; unfold maxLen; omega) (by rw [bl_len]; omega) (by have := HZe.out; omega) ?_
        intro vf wf ho1 hg1 hl1
        have HFf : Hid (Fr w p _ wf vf) := Lib.hid (HFe.out.app hg1 hl1)
        have HOf : Hid (wf.ownsRow base 5 1 vf (n' + (itoL d).length) (bl (res ++ out ++ itoL d))) := Lib.hid (by rw [bl_app]; rw [bl_len] at ho1; exact ho1)
        have HSf : Hid (SrcAt wf p sv (8 * (j + 1))) := Lib.hid (Blk.grown HSe.out hg1 (own_ne HOe.out HSe.out (by decide)))
        have HBf : Hid (Below B w0 wf) := Lib.hid (below_grown HBe.out hg1 (own_lessP HOe.out hBb) (by have := HZe.out; omega))
        have HZf : Hid (w.heap.size ≤ wf.heap.size) := Lib.hid (Nat.le_trans HZe.out hg1.size)
        clear ho1 hg1 hl1 HOe HSe HBe HZe HFe HRD
        clear hcv
        have hout : res ++ out ++ itoL d = res ++ (out ++ dg2 d) := by
          rw [HLE.out, List.append_assoc]
        -- behind two digits: f letter, n' how many ahead of Itoa
        have HO9 : Hid (wf.ownsRow base 5 1 vf (n' + 2) (bl (res ++ (out ++ dg2 d)))) := Lib.hid (by
          have h9 := HOf.out
          rw [hout] at h9
          refine own_lenEq h9 ?_
          have h8 := congrArg List.length hout
          have h7 := HNr.out
          (try simp only [List.length_singleton] at h8)
          simp only [List.length_append, dg2, List.length_cons, List.length_nil] at h8 h7
          omega)
        have HN9 : Hid (n' + 2 = (res ++ (out ++ dg2 d)).length) := Lib.hid (by
          have h7 := HNr.out
          simp only [List.length_append, dg2, List.length_cons, List.length_nil] at h7 ⊢
          omega)
        have HOT9 : Hid (out ++ dg2 d ++ t1 = t ∧ j + 1 + k1 = q + k) := Lib.hid ⟨by rw [List.append_assoc]; exact HOT.out.1, by have := HOT.out.2; omega⟩
        clear hout HOf HNr HOT
        go_wp2_with fail
        go_roundw
        case rel => exact ⟨j + 1, k1, n' + 2, _, t1, rfl, rfl, hjl, by omega, HO9, HN9, HSf, HA1, HOT9, HBf, HZf, HFf⟩
        case measure => rw [posOf_at HSf.out, HPW.out]; omega
    · have HOF : Hid (SegQ w0 w B p base sv (.slice vA vn vcp) (res ++ t) (q + k) wb _) := Lib.hid ⟨HBb.out, HZb.out, by rw [← HOT.out.2]; exact HSb.out, own_lenEq (by rw [← HOT.out.1, List.append_nil]; exact HOb.out) (by rw [← HOT.out.1, List.append_nil]; exact HNr.out), HFb.out⟩
      clear HOb HSb HBb HZb HFb
      go_wp2_with fail
      (try simp only [Exit.inBlock, Exit.then])
      refine bodyPost_ret (results_tmp4 rfl _ _ _) rfl ?_
      exact ⟨_, rfl, HOF.out⟩
    · have HOF : Hid (SegQ w0 w B p base sv (.slice vA vn vcp) (res ++ t) (q + k) wb _) := Lib.hid ⟨HBb.out, HZb.out, by rw [← HOT.out.2]; exact HSb.out, own_lenEq (by rw [← HOT.out.1, List.append_nil]; exact HOb.out) (by rw [← HOT.out.1, List.append_nil]; exact HNr.out), HFb.out⟩
      clear HOb HSb HBb HZb HFb
      go_wp2_with fail
      (try simp only [Exit.inBlock, Exit.then])
      refine bodyPost_ret (results_tmp4 rfl _ _ _) rfl ?_
      exact ⟨_, rfl, HOF.out⟩
end Go.Proofs.YtjpcajecmfhppaaDoor
