/-
  WALK: DecodedBitStreamParser_Decode.
-/
import Derived.Test.YtjkfkkenaiodoaaPq11
namespace Go.Proofs.Ytjkfkkenaiodoaa
open Go.RowKit

/-- How far the source is read. -/
def posOf (w : World) (p : Nat) : Nat := (match w.cell? ⟨p, 1, none⟩ with | some (.int _ q) => 8 * q.toNat | _ => 0) + (match w.cell? ⟨p, 2, none⟩ with | some (.int _ o) => o.toNat | _ => 0)
theorem posOf_at {w : World} {p pos : Nat} {sv : Value} (h : SrcAt w p sv pos) : posOf w p = pos := by
  have c1 : w.cell? ⟨p, 1, none⟩ = some (.int .i64 ((pos / 8 : Nat) : Int)) := by rw [Blk.cell h]; rfl
  have c2 : w.cell? ⟨p, 2, none⟩ = some (.int .i64 ((pos % 8 : Nat) : Int)) := by rw [Blk.cell h]; rfl
  unfold posOf
  rw [c1, c2]
  simp only [Int.toNat_natCast]
  omega
/-- The texts of the segments of bytes. -/
def byteTs (sg : List Seg) : List (List UInt8) := (sg.filter (fun s => s.1 == 4)).map (·.2)
theorem byteTs_4 (sg : List Seg) (t : List UInt8) : byteTs (sg ++ [(4, t)]) = byteTs sg ++ [t] := by simp [byteTs]
theorem byteTs_n (sg : List Seg) (md : Nat) (t : List UInt8) (h : md ≠ 4) : byteTs (sg ++ [(md, t)]) = byteTs sg := by simp [byteTs, h]
/-- The state of the loop. -/
structure DMid (w0 : World) (p base : Nat) (sv : Value) (wr : World) (r bv : Value) (pos k m : Nat) (sg : List Seg) (us : List Value) : Prop where
  own : wr.ownsRow base 5 1 r k (bl (textOf sg))
  klen : k = (textOf sg).length
  src : SrcAt wr p sv pos
  segs : wr.ownsRow base 22 1 bv m us
  bg : BgL wr us (byteTs sg) r
  below : Below w0.heap.size w0 wr
  big : base ≤ wr.heap.size
theorem DMid.onl {w0 wr w2 : World} {p base pos pos2 k m : Nat} {sv r bv : Value} {sg : List Seg} {us : List Value} (h : DMid w0 p base sv wr r bv pos k m sg us) (hs : SrcAt w2 p sv pos2) (o : Onl p wr w2) (hp : w0.heap.size ≤ p) (hw : w0.heap.size ≤ base) : DMid w0 p base sv w2 r bv pos2 k m sg us :=
  ⟨own_onl h.own o h.src (by decide), h.klen, hs, own_onl h.segs o h.src (by decide), h.bg.fr ((Fr.refl wr p r).read o) h.src, o.below _ _ h.below hp (Nat.le_trans hw h.big), Nat.le_trans h.big o.size⟩
theorem DMid.up {w0 wr w2 : World} {p base pos k m : Nat} {sv r bv : Value} {sg : List Seg} {us : List Value} (h : DMid w0 p base sv wr r bv pos k m sg us) (o : Below wr.heap.size wr w2) (hp : w0.heap.size ≤ p) (hw : w0.heap.size ≤ base) : DMid w0 p base sv w2 r bv pos k m sg us :=
  h.onl (Blk.up h.src o) (Onl.of_below o) hp hw
theorem own_fr {w w' : World} {p base n n2 : Nat} {e e2 t : TypeId} {v r r' : Value} {xs ys : List Value} {cs : Array Value} (h : w.ownsRow base e 1 v n xs) (k : Fr w p r w' r') (hp : Blk w p t cs) (ht : t ≠ e) (hr : w.ownsRow base e2 1 r n2 ys) (he : e ≠ e2) : w'.ownsRow base e 1 v n xs := by
  obtain ⟨h1, h2 | ⟨g, cap, cur, rfl, hb', hg, rest⟩⟩ := h
  · exact ⟨h1, .inl h2⟩
  · refine ⟨h1, .inr ⟨g, cap, cur, rfl, hb', (k.same g (Blk.lt (w := w) (g := g) (t := e) (cs := cur) hg) (fun hq => ?_) (fun hq => ?_)).trans hg, rest⟩⟩
    · subst hq
      unfold Blk at hp
      rw [hg] at hp
      injection hp with hp
      injection hp with _ h6
      exact ht h6.symm
    · obtain ⟨cs2, ty, fr, h3, h4⟩ := own_typeS hr he g hq.symm
      rw [hg] at h3
      injection h3 with h3
      injection h3 with _ h6
      exact h4 h6.symm
theorem own_len {w : World} {base m m2 : Nat} {e : TypeId} {v : Value} {us : List Value} (h : w.ownsRow base e 1 v m us) (hm : m2 = us.length) : w.ownsRow base e 1 v m2 us := by
  have e1 := h.1
  have e3 : m = m2 := by omega
  rw [e3] at h
  exact h
/-- Behind a segment of digits or letters. -/
theorem DMid.seg {w0 wr w2 : World} {p base pos pos2 k k2 m md : Nat} {sv r r2 bv : Value} {sg : List Seg} {us : List Value} {t : List UInt8} (h : DMid w0 p base sv wr r bv pos k m sg us) (hb : Below w0.heap.size w0 w2) (hs : SrcAt w2 p sv pos2) (ho : w2.ownsRow base 5 1 r2 k2 (bl (textOf sg ++ t))) (hk : k2 = (textOf sg ++ t).length) (hf : Fr wr p r w2 r2) (hm : md ≠ 4) :
    DMid w0 p base sv w2 r2 bv pos2 k2 m (sg ++ [(md, t)]) us :=
  ⟨by rw [textOf_snoc]; exact ho, by rw [textOf_snoc]; exact hk, hs, own_fr h.segs hf h.src (by decide) h.own (by decide), by rw [byteTs_n _ _ _ hm]; exact h.bg.fr hf h.src, hb, Nat.le_trans h.big hf.size⟩
/-- What the walk ends with. -/
def DecR (w0 : World) (A : Option Addr) (n c : Nat) (lv : Nat) (base : Nat) (R : Nat × List Seg) (e : Ending) (w' : World) : Prop :=
  Below w0.heap.size w0 w' ∧
  ((R.1 = 1 ∧ ∃ t x, e = .returned (.tuple #[.pointer none, .iface t x])) ∨
   (R.1 = 0 ∧ ∃ g A2 m c2 us r, e = .returned (.tuple #[.pointer (some ⟨g, 0, none⟩), .nilIface]) ∧ Blk w' g 104 (drC A n c (ofL (textOf R.2)) A2 m c2 (lvS lv) (-1) (-1) 1) ∧ w'.ownsRow base 22 1 (.slice A2 m c2) m us ∧ BgL w' us (byteTs R.2) r))
set_option maxRecDepth 100000 in
set_option maxHeartbeats 4000000 in
theorem decode_any (A : Option Addr) (n c : Nat) (bs : List Nat) (vp ver lv : Nat) (R : Nat × List Seg) (w : World) (hd : RdB w 5 w.heap.size (.slice A n c) (wv8 bs)) (hbs : ∀ x ∈ bs, x < 256) (hl : bs.length ≤ 2147483647) (hv : VerAt w vp ver) (hlv : lv < 4)
    (hR : segsF bs ver (8 * bs.length + 1) 0 [] = R) (hR2 : R.1 ≠ 2) :
    Calls Try.prog 17 #[.slice A n c, .pointer (some ⟨vp, 0, none⟩), .int .i64 lv, .map none] w fun e w' => DecR w A n c lv w.heap.size R e w' := by
  obtain ⟨i0, hi0, hz0, hz1, hz2⟩ := info_parts info_u8P
  obtain ⟨i1, hi1, hy0, hy1, hy2⟩ := info_parts info_bb
  have HK : Hid (SrcOk w w.heap.size w.heap.size (.slice A n c) bs) := Lib.hid ⟨hd, hbs, hl, Nat.le_refl _⟩
  have hnb := newBits_any A n c w
  have HV := Lib.hid hv
  have HLV := Lib.hid hlv
  have hnl : n ≤ 2147483647 := by
    obtain ⟨A', c', h, -, -⟩ := hd.rdT.rd.form
    injection h with _ h2 _
    rw [h2, wv8_len]; exact hl
  have HR := Lib.hid hR
  have HR2 := Lib.hid hR2
  have hmk1 : ∀ x : World, (Instr.makeSlice 22 (.int .i64 0) (.int .i64 50)).run Try.prog x = .ok (.slice (some ⟨x.heap.size, 0, none⟩) 0 50) (x.alloc (.cells (rep 50 (.int .u8 0)) 5)) := fun x => run_mk0 (P := Try.prog) 22 5 i0 (.int .u8 0) 1 Try.underlying22 hi0 hz0 hz1 hz2 rfl 50 (by decide) (by decide) x
  have hmk2 : ∀ x : World, (Instr.makeSlice 29 (.int .i64 0) (.int .i64 1)).run Try.prog x = .ok (.slice (some ⟨x.heap.size, 0, none⟩) 0 1) (x.alloc (.cells (rep 1 (.slice none 0 0)) 22)) := fun x => run_mk0 (P := Try.prog) 29 22 i1 (.slice none 0 0) 24 Try.underlying29 hi1 hy0 hy1 hy2 rfl 1 (by decide) (by decide) x
  clear hd hv hR hR2 hbs hlv
  go_enter Try.func17, Try.ntmps17
  go_wp2_with fail
  refine hnb.mono ?_
  rintro e wa ⟨rfl, rfl⟩
  clear hnb
  go_wp2_with fail
  obtain ⟨w3, hw3⟩ : ∃ x, x = ((w.alloc (.cells #[.slice A n c, .int .i64 0, .int .i64 0] 106)).alloc (.cells (rep 50 (.int .u8 0)) 5)).alloc (.cells (rep 1 (.slice none 0 0)) 22) := ⟨_, rfl⟩
  have hd0 : DMid w w.heap.size w.heap.size (.slice A n c) w3 (.slice (some ⟨w.heap.size + 1, 0, none⟩) 0 50) (.slice (some ⟨w.heap.size + 1 + 1, 0, none⟩) 0 1) 0 0 0 [] [] := by
    subst hw3
    exact ⟨own_made (Blk.alloc (Blk.fresh' (by simp)) _) (by omega) (by decide), rfl, Blk.alloc (Blk.alloc (Blk.fresh w _ _) _) _, own_made (Blk.fresh' (by simp)) (by omega) (by decide), BgL.nil_ _ _, bal (bal (bal (brf w) _) _) _, by simp; omega⟩
  rw [← hw3]
  have HD0 := Lib.hid hd0
  clear hw3 hd0 hmk1 hmk2
  obtain ⟨p, hpe⟩ : ∃ x, x = w.heap.size := ⟨_, rfl⟩
  have HPE : Hid (w.heap.size ≤ p ∧ p = w.heap.size) := Lib.hid ⟨by omega, hpe⟩
  go_loopw [11, 12, 13, 14, 16, 17, 18, 19] (fun r bv s3 s4 s6 s7 s8 s9 wr => ∃ (f pos k m : Nat) (sg : List Seg) (us : List Value), s3 = .int .i64 (-1) ∧ s4 = .int .i64 (-1) ∧ s6 = .pointer none ∧ s7 = .bool false ∧ s8 = .bool false ∧ s9 = .bool false ∧ 8 * bs.length < f + pos ∧ pos ≤ 8 * bs.length ∧ k ≤ pos ∧ m ≤ pos ∧ Hid (segsF bs ver f pos sg = R) ∧ Hid (DMid w w.heap.size w.heap.size (.slice A n c) wr r bv pos k m sg us)) (fun _ _ _ _ _ _ _ _ wr => 8 * bs.length - posOf wr w.heap.size)
  case atStart => exact ⟨8 * bs.length + 1, 0, 0, 0, [], [], rfl, rfl, rfl, rfl, rfl, rfl, by omega, Nat.zero_le _, Nat.le_refl _, Nat.le_refl _, HR, HD0⟩
  case round =>
    clear HD0 HR hpe HPE
    obtain ⟨f, pos, k, m, sg, us, rfl, rfl, rfl, rfl, rfl, rfl, hf, hp, hkp, hmp, HSG, HD⟩ := hrel
    rename World => wr
    have hav := avail_at HK.out pos wr HD.out.below HD.out.src hp
    obtain ⟨av, hav1⟩ : ∃ q, q = 8 * bs.length - pos := ⟨_, rfl⟩
    rw [← hav1] at hav
    have HPW : Hid (posOf wr w.heap.size = pos) := Lib.hid (posOf_at HD.out.src)
    go_wp2_with fail
    refine hav.mono ?_
    rintro e wa ⟨rfl, hs2, ho2⟩
    have HDa := Lib.hid (HD.out.onl hs2 ho2 (Nat.le_refl _) (Nat.le_refl _))
    clear hs2 ho2 hav HD
    by_cases h4 : 8 * bs.length < pos + 4
    · have hlt : (av : Int) < 4 := by omega
      have hst : R = (0, sg) := by
        obtain ⟨f', rfl⟩ : ∃ f', f = f' + 1 := ⟨f - 1, by omega⟩
        rw [← HSG.out, segsF, if_pos h4]
      have HRS := Lib.hid hst
      clear hst HSG hav1
      -- the end, in world wa
      obtain ⟨A2, c2, hbv, -, -⟩ := (RdT.of_own HDa.out.segs).rd.form
      obtain ⟨m2, hm2⟩ : ∃ x, x = us.length := ⟨_, rfl⟩
      rw [← hm2] at hbv
      subst hbv
      have hcs : ∀ wq, Below wa.heap.size wa wq → (convert 22 9 u11).run Try.prog wq = .ok (.string (ofL (textOf sg))) wq := fun wq hq =>
        conv_str (P := Try.prog) wq wq.heap.size 22 5 9 Try.underlying22 Try.underlying5 Try.underlying9 _ (ofL (textOf sg)) (by rw [bytesOf_ofL]; exact Rd.of_own (own_up HDa.out.own hq))
      have HCS := Lib.hid hcs
      have hln := fun w' => lvName_any lv w' HLV.out
      have HM2 := Lib.hid hm2
      clear hm2 hcs
      by_cases hm0 : m2 = 0
      · subst hm0
        have HUS : Hid (us = []) := Lib.hid (List.eq_nil_of_length_eq_zero HM2.out.symm)
        go_wp2_with fail
        -- the last statement, in world wa; the segments lie in the slice none 0 0
        refine Can.wp_region_can (fun w' => Below wa.heap.size wa w') 999 [0, 1, 2, 3, 4, 6, 7, 8, 5, 9, 10, 11] (by kernel_rfl) (by kernel_rfl) (fun _ _ d _ _ h => by cases d <;> exact h) (bdr (brf _)) (fun hHeld => ?_)
        iterate 2 (refine Can.can_pure (v := ?_) rfl rfl (Or.inl ⟨by rfl, ?_⟩) ?_; rotate_left; (focus ((intro w hSw); (try dsimp only at hSw); go_simp; (try with_reducible rfl))); (try simp only [Act.put, List.getElem_toArray, List.getElem_cons_succ, List.getElem_cons_zero, List.setIfInBounds_toArray, List.set_cons_zero, List.set_cons_succ]))
        refine Can.can_pure (v := .string (ofL (textOf sg))) rfl rfl (Or.inl ⟨by rfl, ?_⟩) ?_
        · intro w5 hSw
          have h5 := HCS.out w5 hSw
          go_simp
          first | done | with_reducible rfl
        (try simp only [Act.put, List.getElem_toArray, List.getElem_cons_succ, List.getElem_cons_zero, List.setIfInBounds_toArray, List.set_cons_zero, List.set_cons_succ])
        repeat (refine Can.can_pure (v := ?_) rfl rfl (Or.inl ⟨by rfl, ?_⟩) ?_; rotate_left; (focus ((intro w hSw); (try dsimp only at hSw); go_simp; (try with_reducible rfl))); (try simp only [Act.put, List.getElem_toArray, List.getElem_cons_succ, List.getElem_cons_zero, List.setIfInBounds_toArray, List.set_cons_zero, List.set_cons_succ]))
        refine Can.can_eff rfl rfl (by rfl) (fun K hK => ?_)
        go_simp
        refine (hln _).mono ?_
        rintro e w5 ⟨rfl, rfl⟩
        refine hK.out _ _ hHeld (fun hHeld2 => ?_)
        clear hK K
        (try simp only [Act.put, List.getElem_toArray, List.getElem_cons_succ, List.getElem_cons_zero, List.setIfInBounds_toArray, List.set_cons_zero, List.set_cons_succ])
        refine Can.can_eff rfl rfl (by rfl) (fun K hK => ?_)
        go_simp
        refine (newDec_any A n c _ _ none 0 0 (-1) (-1) 1 _ hnl).mono ?_
        rintro e w5 ⟨rfl, rfl⟩
        refine hK.out _ _ (bal hHeld _) (fun hHeld3 => ?_)
        clear hK K
        (try simp only [Act.put, List.getElem_toArray, List.getElem_cons_succ, List.getElem_cons_zero, List.setIfInBounds_toArray, List.set_cons_zero, List.set_cons_succ])
        repeat (refine Can.can_pure (v := ?_) rfl rfl (Or.inl ⟨by rfl, ?_⟩) ?_; rotate_left; (focus ((intro w hSw); (try dsimp only at hSw); go_simp; (try with_reducible rfl))); (try simp only [Act.put, List.getElem_toArray, List.getElem_cons_succ, List.getElem_cons_zero, List.setIfInBounds_toArray, List.set_cons_zero, List.set_cons_succ]))
        refine Can.can_done ?_
        have HB9 : Hid (Below w.heap.size w ((World.drew wa).alloc (.cells (drC A n c (ofL (textOf sg)) none 0 0 (lvS lv) (-1) (-1) 1) 104))) := Lib.hid (bal (bdr HDa.out.below) _)
        have HG9 : Hid (Blk ((World.drew wa).alloc (.cells (drC A n c (ofL (textOf sg)) none 0 0 (lvS lv) (-1) (-1) 1) 104)) (World.drew wa).heap.size 104 (drC A n c (ofL (textOf sg)) none 0 0 (lvS lv) (-1) (-1) 1)) := Lib.hid (Blk.fresh _ _ _)
        have HOW9 := Lib.hid (own_up HDa.out.segs (bal (bdr (brf wa)) (.cells (drC A n c (ofL (textOf sg)) none 0 0 (lvS lv) (-1) (-1) 1) 104)))
        have HBG9 := Lib.hid (HDa.out.bg.up (bal (bdr (brf wa)) (.cells (drC A n c (ofL (textOf sg)) none 0 0 (lvS lv) (-1) (-1) 1) 104)))
        clear hHeld hHeld2 hHeld3
        go_wp2
        go_ret2
        exact ⟨HB9.out, .inr ⟨by rw [HRS.out], _, _, _, _, _, _, rfl, by rw [HRS.out]; exact HG9.out, own_nil _ _ _, by rw [HRS.out, ← HUS.out]; exact HBG9.out⟩⟩
      · have hm0i : ¬ (m2 : Int) = 0 := by omega
        go_wp2_with fail
        -- the last statement, in world wa; the segments lie in the slice A2 m2 c2
        refine Can.wp_region_can (fun w' => Below wa.heap.size wa w') 999 [0, 1, 2, 3, 4, 6, 7, 8, 5, 9, 10, 11] (by kernel_rfl) (by kernel_rfl) (fun _ _ d _ _ h => by cases d <;> exact h) (bdr (brf _)) (fun hHeld => ?_)
        iterate 2 (refine Can.can_pure (v := ?_) rfl rfl (Or.inl ⟨by rfl, ?_⟩) ?_; rotate_left; (focus ((intro w hSw); (try dsimp only at hSw); go_simp; (try with_reducible rfl))); (try simp only [Act.put, List.getElem_toArray, List.getElem_cons_succ, List.getElem_cons_zero, List.setIfInBounds_toArray, List.set_cons_zero, List.set_cons_succ]))
        refine Can.can_pure (v := .string (ofL (textOf sg))) rfl rfl (Or.inl ⟨by rfl, ?_⟩) ?_
        · intro w5 hSw
          have h5 := HCS.out w5 hSw
          go_simp
          first | done | with_reducible rfl
        (try simp only [Act.put, List.getElem_toArray, List.getElem_cons_succ, List.getElem_cons_zero, List.setIfInBounds_toArray, List.set_cons_zero, List.set_cons_succ])
        repeat (refine Can.can_pure (v := ?_) rfl rfl (Or.inl ⟨by rfl, ?_⟩) ?_; rotate_left; (focus ((intro w hSw); (try dsimp only at hSw); go_simp; (try with_reducible rfl))); (try simp only [Act.put, List.getElem_toArray, List.getElem_cons_succ, List.getElem_cons_zero, List.setIfInBounds_toArray, List.set_cons_zero, List.set_cons_succ]))
        refine Can.can_eff rfl rfl (by rfl) (fun K hK => ?_)
        go_simp
        refine (hln _).mono ?_
        rintro e w5 ⟨rfl, rfl⟩
        refine hK.out _ _ hHeld (fun hHeld2 => ?_)
        clear hK K
        (try simp only [Act.put, List.getElem_toArray, List.getElem_cons_succ, List.getElem_cons_zero, List.setIfInBounds_toArray, List.set_cons_zero, List.set_cons_succ])
        refine Can.can_eff rfl rfl (by rfl) (fun K hK => ?_)
        go_simp
        refine (newDec_any A n c _ _ A2 m2 c2 (-1) (-1) 1 _ hnl).mono ?_
        rintro e w5 ⟨rfl, rfl⟩
        refine hK.out _ _ (bal hHeld _) (fun hHeld3 => ?_)
        clear hK K
        (try simp only [Act.put, List.getElem_toArray, List.getElem_cons_succ, List.getElem_cons_zero, List.setIfInBounds_toArray, List.set_cons_zero, List.set_cons_succ])
        repeat (refine Can.can_pure (v := ?_) rfl rfl (Or.inl ⟨by rfl, ?_⟩) ?_; rotate_left; (focus ((intro w hSw); (try dsimp only at hSw); go_simp; (try with_reducible rfl))); (try simp only [Act.put, List.getElem_toArray, List.getElem_cons_succ, List.getElem_cons_zero, List.setIfInBounds_toArray, List.set_cons_zero, List.set_cons_succ]))
        refine Can.can_done ?_
        have HB9 : Hid (Below w.heap.size w ((World.drew wa).alloc (.cells (drC A n c (ofL (textOf sg)) A2 m2 c2 (lvS lv) (-1) (-1) 1) 104))) := Lib.hid (bal (bdr HDa.out.below) _)
        have HG9 : Hid (Blk ((World.drew wa).alloc (.cells (drC A n c (ofL (textOf sg)) A2 m2 c2 (lvS lv) (-1) (-1) 1) 104)) (World.drew wa).heap.size 104 (drC A n c (ofL (textOf sg)) A2 m2 c2 (lvS lv) (-1) (-1) 1)) := Lib.hid (Blk.fresh _ _ _)
        have HOW9 := Lib.hid (own_up HDa.out.segs (bal (bdr (brf wa)) (.cells (drC A n c (ofL (textOf sg)) A2 m2 c2 (lvS lv) (-1) (-1) 1) 104)))
        have HBG9 := Lib.hid (HDa.out.bg.up (bal (bdr (brf wa)) (.cells (drC A n c (ofL (textOf sg)) A2 m2 c2 (lvS lv) (-1) (-1) 1) 104)))
        clear hHeld hHeld2 hHeld3
        go_wp2
        go_ret2
        exact ⟨HB9.out, .inr ⟨by rw [HRS.out], _, _, _, _, _, _, rfl, by rw [HRS.out]; exact HG9.out, own_len HOW9.out HM2.out, by rw [HRS.out]; exact HBG9.out⟩⟩
    · have hlt : ¬ (av : Int) < 4 := by omega
      obtain ⟨f', rfl⟩ : ∃ f', f = f' + 1 := ⟨f - 1, by omega⟩
      have hrd : Calls Try.prog 33 #[.pointer (some ⟨w.heap.size, 0, none⟩), .int .i64 4] wa fun e w' => e = .returned (.tuple #[.int .i64 ((rb bs pos 4 : Nat) : Int), .nilIface]) ∧ SrcAt w' w.heap.size (.slice A n c) (pos + 4) ∧ Onl w.heap.size wa w' ∧ Below w.heap.size w w' :=
        rdBits_yes HK.out pos 4 wa HDa.out.below HDa.out.big HDa.out.src (by decide) (by decide) (by omega)
      obtain ⟨md, hmd⟩ : ∃ x, x = rb bs pos 4 := ⟨_, rfl⟩
      have hst := segsF_step bs ver f' pos md sg (by omega) hmd
      rw [HSG.out] at hst
      rw [← hmd] at hrd
      have hm4 : md = 0 ∨ md = 1 ∨ md = 2 ∨ md = 4 := by
        by_cases h0 : md = 0
        · exact .inl h0
        · by_cases hx : md = 1 ∨ md = 2 ∨ md = 4
          · exact .inr hx
          · rw [if_neg h0, if_pos hx] at hst
            exact absurd (by rw [hst]) HR2.out
      have HST := Lib.hid hst
      clear hst HSG hav1 hmd
      go_wp2_with fail
      refine hrd.mono ?_
      rintro e wb ⟨rfl, hs2, ho2, hb2⟩
      have HDb := Lib.hid (HDa.out.onl hs2 ho2 (Nat.le_refl _) (Nat.le_refl _))
      clear hs2 ho2 hb2 hrd HDa
      rcases hm4 with rfl | rfl | rfl | rfl
      · have hmo := mode_yes 0 wb rfl
        have HRS : Hid (R = (0, sg)) := Lib.hid (by rw [HST.out, if_pos rfl])
        clear HST
        go_wp2_with fail
        refine hmo.mono ?_
        rintro e wb ⟨rfl, rfl⟩
        clear hmo
        -- the end, in world wb
        obtain ⟨A2, c2, hbv, -, -⟩ := (RdT.of_own HDb.out.segs).rd.form
        obtain ⟨m2, hm2⟩ : ∃ x, x = us.length := ⟨_, rfl⟩
        rw [← hm2] at hbv
        subst hbv
        have hcs : ∀ wq, Below wb.heap.size wb wq → (convert 22 9 u11).run Try.prog wq = .ok (.string (ofL (textOf sg))) wq := fun wq hq =>
          conv_str (P := Try.prog) wq wq.heap.size 22 5 9 Try.underlying22 Try.underlying5 Try.underlying9 _ (ofL (textOf sg)) (by rw [bytesOf_ofL]; exact Rd.of_own (own_up HDb.out.own hq))
        have HCS := Lib.hid hcs
        have hln := fun w' => lvName_any lv w' HLV.out
        have HM2 := Lib.hid hm2
        clear hm2 hcs
        by_cases hm0 : m2 = 0
        · subst hm0
          have HUS : Hid (us = []) := Lib.hid (List.eq_nil_of_length_eq_zero HM2.out.symm)
          go_wp2_with fail
          -- the last statement, in world wb; the segments lie in the slice none 0 0
          refine Can.wp_region_can (fun w' => Below wb.heap.size wb w') 999 [0, 1, 2, 3, 4, 6, 7, 8, 5, 9, 10, 11] (by kernel_rfl) (by kernel_rfl) (fun _ _ d _ _ h => by cases d <;> exact h) (bdr (brf _)) (fun hHeld => ?_)
          iterate 2 (refine Can.can_pure (v := ?_) rfl rfl (Or.inl ⟨by rfl, ?_⟩) ?_; rotate_left; (focus ((intro w hSw); (try dsimp only at hSw); go_simp; (try with_reducible rfl))); (try simp only [Act.put, List.getElem_toArray, List.getElem_cons_succ, List.getElem_cons_zero, List.setIfInBounds_toArray, List.set_cons_zero, List.set_cons_succ]))
          refine Can.can_pure (v := .string (ofL (textOf sg))) rfl rfl (Or.inl ⟨by rfl, ?_⟩) ?_
          · intro w5 hSw
            have h5 := HCS.out w5 hSw
            go_simp
            first | done | with_reducible rfl
          (try simp only [Act.put, List.getElem_toArray, List.getElem_cons_succ, List.getElem_cons_zero, List.setIfInBounds_toArray, List.set_cons_zero, List.set_cons_succ])
          repeat (refine Can.can_pure (v := ?_) rfl rfl (Or.inl ⟨by rfl, ?_⟩) ?_; rotate_left; (focus ((intro w hSw); (try dsimp only at hSw); go_simp; (try with_reducible rfl))); (try simp only [Act.put, List.getElem_toArray, List.getElem_cons_succ, List.getElem_cons_zero, List.setIfInBounds_toArray, List.set_cons_zero, List.set_cons_succ]))
          refine Can.can_eff rfl rfl (by rfl) (fun K hK => ?_)
          go_simp
          refine (hln _).mono ?_
          rintro e w5 ⟨rfl, rfl⟩
          refine hK.out _ _ hHeld (fun hHeld2 => ?_)
          clear hK K
          (try simp only [Act.put, List.getElem_toArray, List.getElem_cons_succ, List.getElem_cons_zero, List.setIfInBounds_toArray, List.set_cons_zero, List.set_cons_succ])
          refine Can.can_eff rfl rfl (by rfl) (fun K hK => ?_)
          go_simp
          refine (newDec_any A n c _ _ none 0 0 (-1) (-1) 1 _ hnl).mono ?_
          rintro e w5 ⟨rfl, rfl⟩
          refine hK.out _ _ (bal hHeld _) (fun hHeld3 => ?_)
          clear hK K
          (try simp only [Act.put, List.getElem_toArray, List.getElem_cons_succ, List.getElem_cons_zero, List.setIfInBounds_toArray, List.set_cons_zero, List.set_cons_succ])
          repeat (refine Can.can_pure (v := ?_) rfl rfl (Or.inl ⟨by rfl, ?_⟩) ?_; rotate_left; (focus ((intro w hSw); (try dsimp only at hSw); go_simp; (try with_reducible rfl))); (try simp only [Act.put, List.getElem_toArray, List.getElem_cons_succ, List.getElem_cons_zero, List.setIfInBounds_toArray, List.set_cons_zero, List.set_cons_succ]))
          refine Can.can_done ?_
          have HB9 : Hid (Below w.heap.size w ((World.drew wb).alloc (.cells (drC A n c (ofL (textOf sg)) none 0 0 (lvS lv) (-1) (-1) 1) 104))) := Lib.hid (bal (bdr HDb.out.below) _)
          have HG9 : Hid (Blk ((World.drew wb).alloc (.cells (drC A n c (ofL (textOf sg)) none 0 0 (lvS lv) (-1) (-1) 1) 104)) (World.drew wb).heap.size 104 (drC A n c (ofL (textOf sg)) none 0 0 (lvS lv) (-1) (-1) 1)) := Lib.hid (Blk.fresh _ _ _)
          have HOW9 := Lib.hid (own_up HDb.out.segs (bal (bdr (brf wb)) (.cells (drC A n c (ofL (textOf sg)) none 0 0 (lvS lv) (-1) (-1) 1) 104)))
          have HBG9 := Lib.hid (HDb.out.bg.up (bal (bdr (brf wb)) (.cells (drC A n c (ofL (textOf sg)) none 0 0 (lvS lv) (-1) (-1) 1) 104)))
          clear hHeld hHeld2 hHeld3
          go_wp2
          go_ret2
          exact ⟨HB9.out, .inr ⟨by rw [HRS.out], _, _, _, _, _, _, rfl, by rw [HRS.out]; exact HG9.out, own_nil _ _ _, by rw [HRS.out, ← HUS.out]; exact HBG9.out⟩⟩
        · have hm0i : ¬ (m2 : Int) = 0 := by omega
          go_wp2_with fail
          -- the last statement, in world wb; the segments lie in the slice A2 m2 c2
          refine Can.wp_region_can (fun w' => Below wb.heap.size wb w') 999 [0, 1, 2, 3, 4, 6, 7, 8, 5, 9, 10, 11] (by kernel_rfl) (by kernel_rfl) (fun _ _ d _ _ h => by cases d <;> exact h) (bdr (brf _)) (fun hHeld => ?_)
          iterate 2 (refine Can.can_pure (v := ?_) rfl rfl (Or.inl ⟨by rfl, ?_⟩) ?_; rotate_left; (focus ((intro w hSw); (try dsimp only at hSw); go_simp; (try with_reducible rfl))); (try simp only [Act.put, List.getElem_toArray, List.getElem_cons_succ, List.getElem_cons_zero, List.setIfInBounds_toArray, List.set_cons_zero, List.set_cons_succ]))
          refine Can.can_pure (v := .string (ofL (textOf sg))) rfl rfl (Or.inl ⟨by rfl, ?_⟩) ?_
          · intro w5 hSw
            have h5 := HCS.out w5 hSw
            go_simp
            first | done | with_reducible rfl
          (try simp only [Act.put, List.getElem_toArray, List.getElem_cons_succ, List.getElem_cons_zero, List.setIfInBounds_toArray, List.set_cons_zero, List.set_cons_succ])
          repeat (refine Can.can_pure (v := ?_) rfl rfl (Or.inl ⟨by rfl, ?_⟩) ?_; rotate_left; (focus ((intro w hSw); (try dsimp only at hSw); go_simp; (try with_reducible rfl))); (try simp only [Act.put, List.getElem_toArray, List.getElem_cons_succ, List.getElem_cons_zero, List.setIfInBounds_toArray, List.set_cons_zero, List.set_cons_succ]))
          refine Can.can_eff rfl rfl (by rfl) (fun K hK => ?_)
          go_simp
          refine (hln _).mono ?_
          rintro e w5 ⟨rfl, rfl⟩
          refine hK.out _ _ hHeld (fun hHeld2 => ?_)
          clear hK K
          (try simp only [Act.put, List.getElem_toArray, List.getElem_cons_succ, List.getElem_cons_zero, List.setIfInBounds_toArray, List.set_cons_zero, List.set_cons_succ])
          refine Can.can_eff rfl rfl (by rfl) (fun K hK => ?_)
          go_simp
          refine (newDec_any A n c _ _ A2 m2 c2 (-1) (-1) 1 _ hnl).mono ?_
          rintro e w5 ⟨rfl, rfl⟩
          refine hK.out _ _ (bal hHeld _) (fun hHeld3 => ?_)
          clear hK K
          (try simp only [Act.put, List.getElem_toArray, List.getElem_cons_succ, List.getElem_cons_zero, List.setIfInBounds_toArray, List.set_cons_zero, List.set_cons_succ])
          repeat (refine Can.can_pure (v := ?_) rfl rfl (Or.inl ⟨by rfl, ?_⟩) ?_; rotate_left; (focus ((intro w hSw); (try dsimp only at hSw); go_simp; (try with_reducible rfl))); (try simp only [Act.put, List.getElem_toArray, List.getElem_cons_succ, List.getElem_cons_zero, List.setIfInBounds_toArray, List.set_cons_zero, List.set_cons_succ]))
          refine Can.can_done ?_
          have HB9 : Hid (Below w.heap.size w ((World.drew wb).alloc (.cells (drC A n c (ofL (textOf sg)) A2 m2 c2 (lvS lv) (-1) (-1) 1) 104))) := Lib.hid (bal (bdr HDb.out.below) _)
          have HG9 : Hid (Blk ((World.drew wb).alloc (.cells (drC A n c (ofL (textOf sg)) A2 m2 c2 (lvS lv) (-1) (-1) 1) 104)) (World.drew wb).heap.size 104 (drC A n c (ofL (textOf sg)) A2 m2 c2 (lvS lv) (-1) (-1) 1)) := Lib.hid (Blk.fresh _ _ _)
          have HOW9 := Lib.hid (own_up HDb.out.segs (bal (bdr (brf wb)) (.cells (drC A n c (ofL (textOf sg)) A2 m2 c2 (lvS lv) (-1) (-1) 1) 104)))
          have HBG9 := Lib.hid (HDb.out.bg.up (bal (bdr (brf wb)) (.cells (drC A n c (ofL (textOf sg)) A2 m2 c2 (lvS lv) (-1) (-1) 1) 104)))
          clear hHeld hHeld2 hHeld3
          go_wp2
          go_ret2
          exact ⟨HB9.out, .inr ⟨by rw [HRS.out], _, _, _, _, _, _, rfl, by rw [HRS.out]; exact HG9.out, own_len HOW9.out HM2.out, by rw [HRS.out]; exact HBG9.out⟩⟩
      · -- mode 1: up to the number of signs
        have hst := HST.out
        rw [if_neg (by decide), if_neg (by decide)] at hst
        have hcl := cntOf_le 1 ver (by decide)
        have hmo := mode_yes 1 wb rfl
        have hcc := fun w' => fun (h : VerAt w' vp ver) => charCount_any 1 vp ver w' rfl h
        obtain ⟨cb, hcb⟩ : ∃ x, x = cntOf 1 ver := ⟨_, rfl⟩
        rw [← hcb] at hst hcl hcc
        have HCC := Lib.hid hcc
        clear hcb HST hcc
        go_wp2_with fail
        refine hmo.mono ?_
        rintro e wb ⟨rfl, rfl⟩
        clear hmo
        go_wp2_with fail
        refine (HCC.out _ (HV.out.up HDb.out.below)).mono ?_
        rintro e wc ⟨rfl, hb3⟩
        have HDc := Lib.hid (HDb.out.up hb3 (Nat.le_refl _) (Nat.le_refl _))
        clear hb3 HDb HCC
        by_cases hcm : 8 * bs.length < pos + 4 + cb
        · rw [if_pos hcm] at hst
          have HRN : Hid (R.1 = 1) := Lib.hid (by rw [hst])
          have hrd : Calls Try.prog 33 #[.pointer (some ⟨w.heap.size, 0, none⟩), .int .i64 cb] wc fun e w' => (∃ t x, e = .returned (.tuple #[.int .i64 0, .iface t x])) ∧ Below w.heap.size w w' ∧ Onl w.heap.size wc w' :=
            rdBits_no HK.out (pos + 4) cb wc HDc.out.below HDc.out.big HDc.out.src (by omega) (by omega) (by omega) (by omega)
          clear hst
          go_wp2_with fail
          refine hrd.mono ?_
          rintro e w4 ⟨⟨t4, x4, rfl⟩, hb4, ho4⟩
          have HB4 := Lib.hid hb4
          clear hrd hb4 ho4 HDc
          go_wp2_with fail
          refine (wrapF_any t4 x4 _).mono ?_
          rintro e w5 ⟨⟨t5, u5, rfl⟩, hb5⟩
          have HB5 := Lib.hid (HB4.out.trans (hb5.mono HB4.out.size))
          clear hb5
          go_wp2_with fail
          go_ret2
          exact ⟨HB5.out, .inl ⟨HRN.out, _, _, rfl⟩⟩
        · rw [if_neg hcm] at hst
          have hrd : Calls Try.prog 33 #[.pointer (some ⟨w.heap.size, 0, none⟩), .int .i64 cb] wc fun e w' => e = .returned (.tuple #[.int .i64 ((rb bs (pos + 4) cb : Nat) : Int), .nilIface]) ∧ SrcAt w' w.heap.size (.slice A n c) (pos + 4 + cb) ∧ Onl w.heap.size wc w' ∧ Below w.heap.size w w' :=
            rdBits_yes HK.out (pos + 4) cb wc HDc.out.below HDc.out.big HDc.out.src (by omega) (by omega) (by omega)
          have hz := rb_lt bs (pos + 4) cb
          have hz16 : 2 ^ cb ≤ 2 ^ 16 := Nat.pow_le_pow_right (by decide) hcl.2
          obtain ⟨z, hzv⟩ : ∃ z, z = rb bs (pos + 4) cb := ⟨_, rfl⟩
          rw [← hzv] at hz hrd hst
          have hz2 : z ≤ 65535 := by omega
          obtain ⟨S, hS⟩ : ∃ S, segS bs 1 z z (pos + 4 + cb) [] = S := ⟨_, rfl⟩
          rw [hS] at hst
          obtain ⟨pz, hpz⟩ : ∃ x, x = pos + 4 + cb := ⟨_, rfl⟩
          rw [← hpz] at hS hrd
          have h1 : pz ≤ 8 * bs.length := by omega
          have h2 : pos + 12 ≤ pz := by omega
          have HST := Lib.hid hst
          have HSS := Lib.hid hS
          clear hz hz16 hzv hst hS hpz hcm
          go_wp2_with fail
          refine hrd.mono ?_
          rintro e wd ⟨rfl, hs2, ho2, hb2⟩
          have HDd := Lib.hid (HDc.out.onl hs2 ho2 (Nat.le_refl _) (Nat.le_refl _))
          clear hs2 ho2 hb2 hrd HDc
          go_wp2_with fail
          -- digits or letters: 1 = mode, decNum_any = contract
          refine (decNum_any HK.out pz z w.heap.size k _ (textOf sg) S wd HDd.out.below HDd.out.src h1 HDd.out.own HDd.out.klen (Nat.le_refl _) HDd.out.big (by omega) HSS.out).mono ?_
          rintro e we ⟨hbq, hzq, ⟨hS0, u, t, x, rfl⟩ | ⟨t, p2, v', k', hS1, rfl, hsq, hoq, hkq, hfq⟩⟩
          · have HRN : Hid (R.1 = 1) := Lib.hid (by rw [HST.out, hS0])
            have HBq := Lib.hid hbq
            clear hbq hzq hS0 HDd HSS HST
            go_wp2_with fail
            go_ret2
            exact ⟨HBq.out, .inl ⟨HRN.out, _, _, rfl⟩⟩
          · have HSq : Hid (segsF bs ver f' p2 (sg ++ [(1, t)]) = R) := Lib.hid (by rw [HST.out, hS1])
            have HDq := Lib.hid (HDd.out.seg (md := 1) hbq hsq hoq hkq hfq (by decide))
            have hge := segS_ge bs 1 z z pz [] t p2 (by rw [HSS.out, hS1])
            have hle := segS_le bs 1 z z pz [] t p2 h1 (by rw [HSS.out, hS1])
            have hln2 := segS_len bs 1 z z pz [] t p2 (by rw [HSS.out, hS1])
            have hk2 : k' ≤ p2 := by
              have e1 := HDd.out.klen
              rw [hkq, List.length_append]; simp at hln2; omega
            clear hbq hzq hS1 hsq hoq hkq hfq HDd HSS HST hln2
            go_wp2_with fail
            go_roundw
            case rel => exact ⟨f', p2, k', m, _, us, rfl, rfl, rfl, rfl, rfl, rfl, by omega, hle, hk2, by omega, HSq, HDq⟩
            case measure => rw [posOf_at HDq.out.src, HPW.out]; omega
      · -- mode 2: up to the number of signs
        have hst := HST.out
        rw [if_neg (by decide), if_neg (by decide)] at hst
        have hcl := cntOf_le 2 ver (by decide)
        have hmo := mode_yes 2 wb rfl
        have hcc := fun w' => fun (h : VerAt w' vp ver) => charCount_any 2 vp ver w' rfl h
        obtain ⟨cb, hcb⟩ : ∃ x, x = cntOf 2 ver := ⟨_, rfl⟩
        rw [← hcb] at hst hcl hcc
        have HCC := Lib.hid hcc
        clear hcb HST hcc
        go_wp2_with fail
        refine hmo.mono ?_
        rintro e wb ⟨rfl, rfl⟩
        clear hmo
        go_wp2_with fail
        refine (HCC.out _ (HV.out.up HDb.out.below)).mono ?_
        rintro e wc ⟨rfl, hb3⟩
        have HDc := Lib.hid (HDb.out.up hb3 (Nat.le_refl _) (Nat.le_refl _))
        clear hb3 HDb HCC
        by_cases hcm : 8 * bs.length < pos + 4 + cb
        · rw [if_pos hcm] at hst
          have HRN : Hid (R.1 = 1) := Lib.hid (by rw [hst])
          have hrd : Calls Try.prog 33 #[.pointer (some ⟨w.heap.size, 0, none⟩), .int .i64 cb] wc fun e w' => (∃ t x, e = .returned (.tuple #[.int .i64 0, .iface t x])) ∧ Below w.heap.size w w' ∧ Onl w.heap.size wc w' :=
            rdBits_no HK.out (pos + 4) cb wc HDc.out.below HDc.out.big HDc.out.src (by omega) (by omega) (by omega) (by omega)
          clear hst
          go_wp2_with fail
          refine hrd.mono ?_
          rintro e w4 ⟨⟨t4, x4, rfl⟩, hb4, ho4⟩
          have HB4 := Lib.hid hb4
          clear hrd hb4 ho4 HDc
          go_wp2_with fail
          refine (wrapF_any t4 x4 _).mono ?_
          rintro e w5 ⟨⟨t5, u5, rfl⟩, hb5⟩
          have HB5 := Lib.hid (HB4.out.trans (hb5.mono HB4.out.size))
          clear hb5
          go_wp2_with fail
          go_ret2
          exact ⟨HB5.out, .inl ⟨HRN.out, _, _, rfl⟩⟩
        · rw [if_neg hcm] at hst
          have hrd : Calls Try.prog 33 #[.pointer (some ⟨w.heap.size, 0, none⟩), .int .i64 cb] wc fun e w' => e = .returned (.tuple #[.int .i64 ((rb bs (pos + 4) cb : Nat) : Int), .nilIface]) ∧ SrcAt w' w.heap.size (.slice A n c) (pos + 4 + cb) ∧ Onl w.heap.size wc w' ∧ Below w.heap.size w w' :=
            rdBits_yes HK.out (pos + 4) cb wc HDc.out.below HDc.out.big HDc.out.src (by omega) (by omega) (by omega)
          have hz := rb_lt bs (pos + 4) cb
          have hz16 : 2 ^ cb ≤ 2 ^ 16 := Nat.pow_le_pow_right (by decide) hcl.2
          obtain ⟨z, hzv⟩ : ∃ z, z = rb bs (pos + 4) cb := ⟨_, rfl⟩
          rw [← hzv] at hz hrd hst
          have hz2 : z ≤ 65535 := by omega
          obtain ⟨S, hS⟩ : ∃ S, segS bs 2 z z (pos + 4 + cb) [] = S := ⟨_, rfl⟩
          rw [hS] at hst
          obtain ⟨pz, hpz⟩ : ∃ x, x = pos + 4 + cb := ⟨_, rfl⟩
          rw [← hpz] at hS hrd
          have h1 : pz ≤ 8 * bs.length := by omega
          have h2 : pos + 12 ≤ pz := by omega
          have HST := Lib.hid hst
          have HSS := Lib.hid hS
          clear hz hz16 hzv hst hS hpz hcm
          go_wp2_with fail
          refine hrd.mono ?_
          rintro e wd ⟨rfl, hs2, ho2, hb2⟩
          have HDd := Lib.hid (HDc.out.onl hs2 ho2 (Nat.le_refl _) (Nat.le_refl _))
          clear hs2 ho2 hb2 hrd HDc
          go_wp2_with fail
          -- digits or letters: 2 = mode, decAlp_any = contract
          refine (decAlp_any HK.out pz z w.heap.size k _ (textOf sg) S wd HDd.out.below HDd.out.src h1 HDd.out.own HDd.out.klen (Nat.le_refl _) HDd.out.big (by omega) HSS.out).mono ?_
          rintro e we ⟨hbq, hzq, ⟨hS0, u, t, x, rfl⟩ | ⟨t, p2, v', k', hS1, rfl, hsq, hoq, hkq, hfq⟩⟩
          · have HRN : Hid (R.1 = 1) := Lib.hid (by rw [HST.out, hS0])
            have HBq := Lib.hid hbq
            clear hbq hzq hS0 HDd HSS HST
            go_wp2_with fail
            go_ret2
            exact ⟨HBq.out, .inl ⟨HRN.out, _, _, rfl⟩⟩
          · have HSq : Hid (segsF bs ver f' p2 (sg ++ [(2, t)]) = R) := Lib.hid (by rw [HST.out, hS1])
            have HDq := Lib.hid (HDd.out.seg (md := 2) hbq hsq hoq hkq hfq (by decide))
            have hge := segS_ge bs 2 z z pz [] t p2 (by rw [HSS.out, hS1])
            have hle := segS_le bs 2 z z pz [] t p2 h1 (by rw [HSS.out, hS1])
            have hln2 := segS_len bs 2 z z pz [] t p2 (by rw [HSS.out, hS1])
            have hk2 : k' ≤ p2 := by
              have e1 := HDd.out.klen
              rw [hkq, List.length_append]; simp at hln2; omega
            clear hbq hzq hS1 hsq hoq hkq hfq HDd HSS HST hln2
            go_wp2_with fail
            go_roundw
            case rel => exact ⟨f', p2, k', m, _, us, rfl, rfl, rfl, rfl, rfl, rfl, by omega, hle, hk2, by omega, HSq, HDq⟩
            case measure => rw [posOf_at HDq.out.src, HPW.out]; omega
      · -- mode 4: up to the number of signs
        have hst := HST.out
        rw [if_neg (by decide), if_neg (by decide)] at hst
        have hcl := cntOf_le 4 ver (by decide)
        have hmo := mode_yes 4 wb rfl
        have hcc := fun w' => fun (h : VerAt w' vp ver) => charCount_any 4 vp ver w' rfl h
        obtain ⟨cb, hcb⟩ : ∃ x, x = cntOf 4 ver := ⟨_, rfl⟩
        rw [← hcb] at hst hcl hcc
        have HCC := Lib.hid hcc
        clear hcb HST hcc
        go_wp2_with fail
        refine hmo.mono ?_
        rintro e wb ⟨rfl, rfl⟩
        clear hmo
        go_wp2_with fail
        refine (HCC.out _ (HV.out.up HDb.out.below)).mono ?_
        rintro e wc ⟨rfl, hb3⟩
        have HDc := Lib.hid (HDb.out.up hb3 (Nat.le_refl _) (Nat.le_refl _))
        clear hb3 HDb HCC
        by_cases hcm : 8 * bs.length < pos + 4 + cb
        · rw [if_pos hcm] at hst
          have HRN : Hid (R.1 = 1) := Lib.hid (by rw [hst])
          have hrd : Calls Try.prog 33 #[.pointer (some ⟨w.heap.size, 0, none⟩), .int .i64 cb] wc fun e w' => (∃ t x, e = .returned (.tuple #[.int .i64 0, .iface t x])) ∧ Below w.heap.size w w' ∧ Onl w.heap.size wc w' :=
            rdBits_no HK.out (pos + 4) cb wc HDc.out.below HDc.out.big HDc.out.src (by omega) (by omega) (by omega) (by omega)
          clear hst
          go_wp2_with fail
          refine hrd.mono ?_
          rintro e w4 ⟨⟨t4, x4, rfl⟩, hb4, ho4⟩
          have HB4 := Lib.hid hb4
          clear hrd hb4 ho4 HDc
          go_wp2_with fail
          refine (wrapF_any t4 x4 _).mono ?_
          rintro e w5 ⟨⟨t5, u5, rfl⟩, hb5⟩
          have HB5 := Lib.hid (HB4.out.trans (hb5.mono HB4.out.size))
          clear hb5
          go_wp2_with fail
          go_ret2
          exact ⟨HB5.out, .inl ⟨HRN.out, _, _, rfl⟩⟩
        · rw [if_neg hcm] at hst
          have hrd : Calls Try.prog 33 #[.pointer (some ⟨w.heap.size, 0, none⟩), .int .i64 cb] wc fun e w' => e = .returned (.tuple #[.int .i64 ((rb bs (pos + 4) cb : Nat) : Int), .nilIface]) ∧ SrcAt w' w.heap.size (.slice A n c) (pos + 4 + cb) ∧ Onl w.heap.size wc w' ∧ Below w.heap.size w w' :=
            rdBits_yes HK.out (pos + 4) cb wc HDc.out.below HDc.out.big HDc.out.src (by omega) (by omega) (by omega)
          have hz := rb_lt bs (pos + 4) cb
          have hz16 : 2 ^ cb ≤ 2 ^ 16 := Nat.pow_le_pow_right (by decide) hcl.2
          obtain ⟨z, hzv⟩ : ∃ z, z = rb bs (pos + 4) cb := ⟨_, rfl⟩
          rw [← hzv] at hz hrd hst
          have hz2 : z ≤ 65535 := by omega
          obtain ⟨S, hS⟩ : ∃ S, segS bs 4 z z (pos + 4 + cb) [] = S := ⟨_, rfl⟩
          rw [hS] at hst
          obtain ⟨pz, hpz⟩ : ∃ x, x = pos + 4 + cb := ⟨_, rfl⟩
          rw [← hpz] at hS hrd
          have h1 : pz ≤ 8 * bs.length := by omega
          have h2 : pos + 12 ≤ pz := by omega
          have HST := Lib.hid hst
          have HSS := Lib.hid hS
          clear hz hz16 hzv hst hS hpz hcm
          go_wp2_with fail
          refine hrd.mono ?_
          rintro e wd ⟨rfl, hs2, ho2, hb2⟩
          have HDd := Lib.hid (HDc.out.onl hs2 ho2 (Nat.le_refl _) (Nat.le_refl _))
          clear hs2 ho2 hb2 hrd HDc
          go_wp2_with fail
          refine (decByte_any HK.out pz z w.heap.size k _ (textOf sg) S wd HDd.out.below HDd.out.src h1 HDd.out.own HDd.out.klen (Nat.le_refl _) HDd.out.big (by omega) HSS.out _ _ _ m us (byteTs sg) HDd.out.segs (by omega) HDd.out.bg).mono ?_
          rintro e we ⟨hbq, hzq, ⟨hS0, u, u2, t, x, rfl⟩ | ⟨t, p2, v', k', vs', us', hS1, rfl, hsq, hoq, hkq, hosq, hgq⟩⟩
          · have HRN : Hid (R.1 = 1) := Lib.hid (by rw [HST.out, hS0])
            have HBq := Lib.hid hbq
            clear hbq hzq hS0 HDd HSS HST
            go_wp2_with fail
            go_ret2
            exact ⟨HBq.out, .inl ⟨HRN.out, _, _, rfl⟩⟩
          · have HSq : Hid (segsF bs ver f' p2 (sg ++ [(4, t)]) = R) := Lib.hid (by rw [HST.out, hS1])
            have HDq : Hid (DMid w w.heap.size w.heap.size (.slice A n c) we v' vs' p2 k' (m + 1) (sg ++ [(4, t)]) us') := Lib.hid ⟨by rw [textOf_snoc]; exact hoq, by rw [textOf_snoc]; exact hkq, hsq, hosq, by rw [byteTs_4]; exact hgq, hbq, Nat.le_trans HDd.out.big hzq⟩
            have hge := segS_ge bs 4 z z pz [] t p2 (by rw [HSS.out, hS1])
            have hle := segS_le bs 4 z z pz [] t p2 h1 (by rw [HSS.out, hS1])
            have hln2 := segS_len bs 4 z z pz [] t p2 (by rw [HSS.out, hS1])
            have hk2 : k' ≤ p2 := by
              have e1 := HDd.out.klen
              rw [hkq, List.length_append]; simp at hln2; omega
            clear hbq hzq hS1 hsq hoq hkq hosq hgq HDd HSS HST hln2
            go_wp2_with fail
            go_roundw
            case rel => exact ⟨f', p2, k', m + 1, _, us', rfl, rfl, rfl, rfl, rfl, rfl, by omega, hle, hk2, by omega, HSq, HDq⟩
            case measure => rw [posOf_at HDq.out.src, HPW.out]; omega
end Go.Proofs.Ytjkfkkenaiodoaa
