/-
  WALK: decodeByteSegment.
-/
import Derived.Test.YtjkfkkenaiodoaaPq9
import Derived.Test.YtjkfkkenaiodoaaFill
namespace Go.Proofs.Ytjkfkkenaiodoaa
open Go.RowKit

/-- The bytes of a segment. -/
def b8s (bs : List Nat) (pos : Nat) : Nat → List UInt8
  | 0 => []
  | c + 1 => UInt8.ofNat (rb bs pos 8) :: b8s bs (pos + 8) c
theorem b8s_len (bs : List Nat) : ∀ c pos, (b8s bs pos c).length = c
  | 0, _ => rfl
  | c + 1, pos => by simp [b8s, b8s_len bs c]
theorem b8s_at (bs : List Nat) : ∀ c pos i, (h : i < (b8s bs pos c).length) → (b8s bs pos c)[i]'h = UInt8.ofNat (rb bs (pos + 8 * i) 8)
  | 0, _, i, h => by simp [b8s] at h
  | c + 1, pos, 0, h => by simp [b8s]
  | c + 1, pos, i + 1, h => by
    have h2 : i < (b8s bs (pos + 8) c).length := by simp only [b8s, List.length_cons] at h; omega
    have e := b8s_at bs c (pos + 8) i h2
    have e2 : pos + 8 + 8 * i = pos + 8 * (i + 1) := by omega
    rw [e2] at e
    simpa [b8s] using e
theorem segS_b8 (bs : List Nat) : ∀ c f pos out, c ≤ f → pos ≤ 8 * bs.length → segS bs 4 f c pos out = (if 8 * bs.length < pos + 8 * c then none else some (out ++ b8s bs pos c, pos + 8 * c))
  | 0, f, pos, out, _, hp => by rw [segS_end, if_neg (by omega)]; simp [b8s]
  | c + 1, f, pos, out, hf, hp => by
    obtain ⟨f', rfl, hst⟩ := segS_step bs 4 f (c + 1) pos out 1 8 256 rfl (by omega) hf
    rw [hst]
    by_cases h : 8 * bs.length < pos + 8
    · rw [if_pos h, if_pos (by omega)]
    · rw [if_neg h, if_neg (by have := rb_lt bs pos 8; omega)]
      have e : c + 1 - 1 = c := by omega
      rw [e, segS_b8 bs c f' (pos + 8) _ (by omega) (by omega)]
      by_cases h2 : 8 * bs.length < pos + 8 + 8 * c
      · rw [if_pos h2, if_pos (by omega)]
      · rw [if_neg h2, if_neg (by omega)]
        have e2 : pos + 8 + 8 * c = pos + 8 * (c + 1) := by omega
        rw [e2]
        simp [b8s, chK]
/-- Slices, each of its own block of bytes, none of them that of v. -/
def BgL (w : World) (us : List Value) (ts : List (List UInt8)) (v : Value) : Prop :=
  us.length = ts.length ∧ ∀ (i : Nat) (u : Value) (t : List UInt8), us[i]? = some u → ts[i]? = some t → ∃ g, u = .slice (some ⟨g, 0, none⟩) t.length t.length ∧ t.length ≤ maxLen ∧ Blk w g 5 (bl t).toArray ∧ some g ≠ v.ownBlock
theorem BgL.nil_ (w : World) (v : Value) : BgL w [] [] v := ⟨rfl, fun i u t h => by simp at h⟩
theorem BgL.fr {w w' : World} {p : Nat} {v v' : Value} {us : List Value} {ts : List (List UInt8)} {cs : Array Value} (h : BgL w us ts v) (k : Fr w p v w' v') (hp : Blk w p 106 cs) : BgL w' us ts v' := by
  refine ⟨h.1, fun i u t hu ht => ?_⟩
  obtain ⟨g, e, hm, hb, hne⟩ := h.2 i u t hu ht
  refine ⟨g, e, hm, (k.same g hb.lt (fun he => ?_) hne).trans hb, fun he => ?_⟩
  · subst he
    unfold Blk at hp hb
    rw [hb] at hp
    injection hp with hp
    injection hp with _ h6
    exact absurd h6 (by decide)
  · rcases k.ob with ho | ⟨g2, ho, hs⟩
    · rw [ho] at he; exact hne he
    · rw [ho] at he; injection he with he; have := hb.lt; omega
theorem BgL.up {w w' : World} {v : Value} {us : List Value} {ts : List (List UInt8)} (h : BgL w us ts v) (k : Below w.heap.size w w') : BgL w' us ts v :=
  ⟨h.1, fun i u t hu ht => by obtain ⟨g, e, hm, hb, hne⟩ := h.2 i u t hu ht; exact ⟨g, e, hm, hb.up k, hne⟩⟩
theorem BgL.other {w w' : World} {v s : Value} {us xs : List Value} {ts : List (List UInt8)} {base size n : Nat} {e : TypeId} (h : BgL w us ts v) (ho : w.ownsRow base e size s n xs) (he : 5 ≠ e) (hg : w.grownBy w' s.ownBlock) : BgL w' us ts v :=
  ⟨h.1, fun i u t hu ht => by
    obtain ⟨g, e1, hm, hb, hne⟩ := h.2 i u t hu ht
    refine ⟨g, e1, hm, hb.grown hg (fun hq => ?_), hne⟩
    obtain ⟨cs, ty, fr, h1, h2⟩ := own_typeS ho he g hq.symm
    unfold Blk at hb
    rw [hb] at h1
    injection h1 with h1
    injection h1 with _ h6
    exact h2 h6.symm⟩
theorem BgL.snoc {w : World} {v : Value} {us : List Value} {ts : List (List UInt8)} (h : BgL w us ts v) (g : Nat) (t : List UInt8) (hm : t.length ≤ maxLen) (hb : Blk w g 5 (bl t).toArray) (hne : some g ≠ v.ownBlock) :
    BgL w (us ++ [.slice (some ⟨g, 0, none⟩) t.length t.length]) (ts ++ [t]) v := by
  refine ⟨by simp [h.1], fun i u t' hu ht => ?_⟩
  by_cases hlt : i < us.length
  · rw [List.getElem?_append_left hlt] at hu
    rw [List.getElem?_append_left (by rw [← h.1]; exact hlt)] at ht
    exact h.2 i u t' hu ht
  · have hi2 : i < (us ++ [Value.slice (some ⟨g, 0, none⟩) t.length t.length]).length := (List.getElem?_eq_some_iff.1 hu).1
    have hie : i = us.length := by simp at hi2; omega
    subst hie
    rw [List.getElem?_append_right (Nat.le_refl _), Nat.sub_self] at hu
    rw [h.1, List.getElem?_append_right (Nat.le_refl _), Nat.sub_self] at ht
    simp at hu ht
    subst hu ht
    exact ⟨g, rfl, hm, hb, hne⟩
theorem info_bb : (Try.prog.info? 22).map (fun i => (i.zero, i.size, i.bytes)) = some (some (.slice none 0 0), 1, 24) := by kernel_rfl
theorem bl_set (l : List UInt8) (i : Nat) (b : UInt8) : (bl l).toArray.setIfInBounds i (.int .u8 (b.toNat : Int)) = (bl (l.set i b)).toArray := by
  simp [bl, List.map_set]
theorem bl_rep (n : Nat) : rep n (Value.int .u8 0) = (bl (List.replicate n (0 : UInt8))).toArray := by simp [rep, bl]
theorem avail_at {w0 : World} {B p : Nat} {sv : Value} {bs : List Nat} (h : SrcOk w0 B p sv bs) (pos : Nat) (w : World) (hb : Below B w0 w) (hs : SrcAt w p sv pos) (hp : pos ≤ 8 * bs.length) :
    Calls Try.prog 32 #[.pointer (some ⟨p, 0, none⟩)] w fun e w' => e = .returned (.int .i64 ((8 * bs.length - pos : Nat) : Int)) ∧ SrcAt w' p sv pos ∧ Onl p w w' := by
  have e1 : 8 * (pos / 8) + pos % 8 = pos := by omega
  refine (available_any p (pos / 8) (pos % 8) sv bs w (h.bs hb hs) h.len (by omega) (by omega)).mono ?_
  rintro e w' ⟨rfl, hbs, ho⟩
  rw [e1]
  exact ⟨rfl, hbs.head, ho⟩
theorem Onl.new {p g : Nat} {a b : World} (h : Onl p a b) (hg : a.heap.size ≤ g) (i : Nat) (u : Value) : Onl p a (b.setCell ⟨g, i, none⟩ u) :=
  ⟨fun x hx h1 => (Below.heap_setCell b ⟨g, i, none⟩ u x (by simp only; omega)).trans (h.same x hx h1), by simpa [World.setCell] using h.size, fun B w0 hB h1 h2 => (h.below B w0 hB h1 h2).setCell (p := ⟨g, i, none⟩) (by simp only; omega) u⟩
set_option maxRecDepth 100000 in
set_option maxHeartbeats 4000000 in
theorem decByte_any {w0 : World} {B p : Nat} {sv : Value} {bs : List Nat} (h : SrcOk w0 B p sv bs) (pos count base n : Nat) (v : Value) (res : List UInt8) (R : Option (List UInt8 × Nat)) (w : World) (hb : Below B w0 w) (hs : SrcAt w p sv pos) (hp : pos ≤ 8 * bs.length)
    (ho : w.ownsRow base 5 1 v n (bl res)) (hn : n = res.length) (hBb : B ≤ base) (hbw : base ≤ w.heap.size) (hn2 : n + count ≤ 100000000000) (hR : segS bs 4 count count pos [] = R)
    (x3 x5 vs : Value) (m : Nat) (us : List Value) (ts : List (List UInt8)) (hos : w.ownsRow base 22 1 vs m us) (hm : m ≤ 100000000000) (hg : BgL w us ts v) :
    Calls Try.prog 42 #[.pointer (some ⟨p, 0, none⟩), v, .int .i64 count, x3, vs, x5] w fun e w' =>
      Below B w0 w' ∧ w.heap.size ≤ w'.heap.size ∧
      ((R = none ∧ ∃ u u2 t x, e = .returned (.tuple #[u, u2, .iface t x])) ∨
       (∃ t p2 v' k' vs' us', R = some (t, p2) ∧ e = .returned (.tuple #[v', vs', .nilIface]) ∧ SrcAt w' p sv p2 ∧ w'.ownsRow base 5 1 v' k' (bl (res ++ t)) ∧ k' = (res ++ t).length ∧ w'.ownsRow base 22 1 vs' (m + 1) us' ∧ BgL w' us' (ts ++ [t]) v')) := by
  obtain ⟨i0, hi0, hz0, hz1, hz2⟩ := info_parts info_u8P
  obtain ⟨i1, hi1, hy0, hy1, hy2⟩ := info_parts info_bb
  rw [segS_b8 bs count count pos [] (Nat.le_refl _) hp] at hR
  have HK := Lib.hid h
  have HB := Lib.hid hb
  have HS := Lib.hid hs
  have HO := Lib.hid ho
  have HOS := Lib.hid hos
  have HG := Lib.hid hg
  have HN := Lib.hid hn
  have hbl := h.len
  have hav := avail_at h pos w hb hs hp
  clear h hb hs ho hn hos hg
  obtain ⟨av, hav1⟩ : ∃ q, q = 8 * bs.length - pos := ⟨_, rfl⟩
  rw [← hav1] at hav
  have HAV := Lib.hid hav1
  clear hav1
  go_enter Try.func42, Try.ntmps42
  go_wp2_with fail
  refine hav.mono ?_
  rintro e wa ⟨rfl, hs2, ho2⟩
  have HBw : Hid (B ≤ w.heap.size) := Lib.hid (by omega)
  have HF := Lib.hid ((Fr.refl w p v).read ho2)
  have HOa := Lib.hid (own_onl HO.out ho2 HS.out (by decide))
  have HOSa := Lib.hid (own_onl HOS.out ho2 HS.out (by decide))
  have HGa := Lib.hid (HG.out.fr HF.out HS.out)
  have HSa := Lib.hid hs2
  have HBa : Hid (Below B w0 wa) := Lib.hid (ho2.below B w0 HB.out HK.out.le HBw.out)
  have HZa : Hid (w.heap.size ≤ wa.heap.size) := Lib.hid ho2.size
  clear hs2 ho2 HO HOS HG HS HB hav HF
  by_cases hbig : 8 * bs.length < pos + 8 * count
  · rw [if_pos hbig] at hR
    have HRN := Lib.hid hR.symm
    have hlt : (av : Int) < 8 * (count : Int) := by have := HAV.out; omega
    have hav2 := avail_at HK.out pos wa HBa.out HSa.out hp
    rw [← HAV.out] at hav2
    clear hR hbig HOa HOSa HGa HSa
    go_wp2_with fail
    refine hav2.mono ?_
    rintro e w4 ⟨rfl, hs3, ho3⟩
    have HB4 : Hid (Below B w0 w4) := Lib.hid (ho3.below B w0 HBa.out HK.out.le (by have := HBw.out; have := HZa.out; omega))
    have HZ4 : Hid (w.heap.size ≤ w4.heap.size) := Lib.hid (Nat.le_trans HZa.out ho3.size)
    clear hs3 ho3 hav2
    go_wp2_with fail
    refine (newF_any _ _).mono ?_
    rintro e w5 ⟨⟨t, u, rfl⟩, hb5⟩
    have HB5 : Hid (Below B w0 w5) := Lib.hid (below_up HB4.out (bup (bal (brf w4) _) hb5) (by have := HBw.out; have := HZ4.out; omega))
    have HZ5 : Hid (w.heap.size ≤ w5.heap.size) := Lib.hid (Nat.le_trans HZ4.out (bup (bal (brf w4) _) hb5).size)
    clear hb5
    go_wp2_with fail
    go_ret3
    exact ⟨HB5.out, HZ5.out, .inl ⟨HRN.out, _, _, _, _, rfl⟩⟩
  · rw [if_neg hbig] at hR
    have HRS : Hid (R = some (b8s bs pos count, pos + 8 * count)) := Lib.hid (by rw [← hR]; simp)
    have hlt : ¬ (av : Int) < 8 * (count : Int) := by have := HAV.out; omega
    have hmk := run_mk (P := Try.prog) 22 5 (.int .u8 0) 1 Try.underlying22 info_u8P rfl count (by omega) (by omega) wa
    rw [bl_rep] at hmk
    obtain ⟨l, hl⟩ : ∃ l, l = b8s bs pos count := ⟨_, rfl⟩
    have HL : Hid (l.length = count) := Lib.hid (by rw [hl, b8s_len])
    have HLA : Hid (∀ i, (h : i < l.length) → l[i]'h = UInt8.ofNat (rb bs (pos + 8 * i) 8)) := Lib.hid (by subst hl; exact b8s_at bs count pos)
    rw [← hl] at HRS
    have HPL : Hid (p < wa.heap.size) := Lib.hid (Blk.lt HSa.out)
    have HGB : Hid (some wa.heap.size ≠ v.ownBlock) := Lib.hid (fun he => by have := own_lt HOa.out he.symm; omega)
    clear hR hl
    go_wp2_with fail
    go_loopw [16] (fun iv wr => ∃ i : Nat, i ≤ count ∧ iv = .int .i64 i ∧ Hid (Blk wr wa.heap.size 5 (bl (fillA l 0 count i)).toArray) ∧ Hid (SrcAt wr p sv (pos + 8 * i)) ∧ Hid (Onl p wa wr)) (fun iv _ => count - (intOf iv).toNat)
    case atStart => exact ⟨0, Nat.zero_le _, rfl, Lib.hid (by rw [fill_zero]; exact Blk.fresh wa _ _), Lib.hid (Blk.alloc HSa.out _), Lib.hid (Onl.of_below (bal (brf wa) _))⟩
    case round =>
      clear hmk
      obtain ⟨i, hi, rfl, HX, HSr, HON⟩ := hrel
      rename World => wr
      have HBr : Hid (Below B w0 wr) := Lib.hid (HON.out.below B w0 HBa.out HK.out.le (by have := HBw.out; have := HZa.out; omega))
      have HBs : Hid (B ≤ wr.heap.size) := Lib.hid (by have := HBw.out; have := HZa.out; have := HON.out.size; omega)
      by_cases hic : i < count
      · have hrd : Calls Try.prog 33 #[.pointer (some ⟨p, 0, none⟩), .int .i64 8] wr fun e w' => e = .returned (.tuple #[.int .i64 ((rb bs (pos + 8 * i) 8 : Nat) : Int), .nilIface]) ∧ SrcAt w' p sv (pos + 8 * i + 8) ∧ Onl p wr w' ∧ Below B w0 w' :=
          rdBits_yes HK.out (pos + 8 * i) 8 wr HBr.out HBs.out HSr.out (by decide) (by decide) (by omega)
        have hz := rb_lt bs (pos + 8 * i) 8
        have hset := fill_set l (0 : UInt8) count i (by rw [HL.out]; exact hic) (by rw [HL.out]; exact Nat.le_refl _)
        rw [HLA.out i (by rw [HL.out]; exact hic)] at hset
        obtain ⟨z, hzv⟩ : ∃ z, z = rb bs (pos + 8 * i) 8 := ⟨_, rfl⟩
        rw [← hzv] at hz hrd hset
        have HSET := Lib.hid hset
        clear hzv hset
        go_wp2_with fail
        refine hrd.mono ?_
        rintro e wb ⟨rfl, hs2, ho2, hb2⟩
        have HX2 := Lib.hid (HX.out.onl ho2 (by have := HPL.out; omega))
        have HS2 := Lib.hid hs2
        have HO2 := Lib.hid (HON.out.trans ho2)
        clear hs2 ho2 hb2 hrd HX HSr HON
        have cO : wb.cell? ⟨wa.heap.size, i, none⟩ = some (.int .u8 0) := by
          rw [HX2.out.cell, List.getElem?_toArray]
          unfold bl
          rw [List.getElem?_map, fill_at_k l (0 : UInt8) count i hic (by rw [HL.out]; exact hi)]
          rfl
        have fO : wb.frozen? ⟨wa.heap.size, i, none⟩ = false := HX2.out.frozen _
        have hz256 : z < 256 := hz
        clear hz
        go_wp2_with fail
        go_roundw
        case rel => exact ⟨i + 1, hic, rfl, Lib.hid (by
            have e := bl_set (fillA l 0 count i) i (UInt8.ofNat z)
            have e2 : (UInt8.ofNat z).toNat = z := by simp; omega
            rw [HSET.out, e2] at e
            rw [← e]; exact HX2.out.put _ _), Lib.hid (Blk.far HS2.out (p := ⟨wa.heap.size, i, none⟩) (by have := HPL.out; simp only; omega) _), Lib.hid (HO2.out.new (Nat.le_refl _) i _)⟩
        case measure => simp [intOf]; omega
      · obtain rfl : i = count := by omega
        have HXL : Hid (Blk wr wa.heap.size 5 (bl l).toArray) := Lib.hid (by have := HX.out; rw [← HL.out] at this; rwa [fill_full] at this)
        have HGw := Lib.hid (HGa.out.fr ((Fr.refl wa p v).read HON.out) HSa.out)
        have HOr := Lib.hid (own_onl HOa.out HON.out HSa.out (by decide))
        have HOSr := Lib.hid (own_onl HOSa.out HON.out HSa.out (by decide))
        have HZr : Hid (w.heap.size ≤ wr.heap.size) := Lib.hid (Nat.le_trans HZa.out HON.out.size)
        have HZg : Hid (wa.heap.size < wr.heap.size) := Lib.hid HXL.out.lt
        clear HX HGa HOa HOSa HSa HBa HON
        go_wp2_with (with_reducible refine stop_at (o := ⟨some 51, _, _, _, _, _⟩) ?_)
        refine Lib.hid ?_
        refine list_app2 rfl _ _ _ rfl base 5 i0 _ 1 Try.underlying22 hi0 hz0 hz1 hz2 rfl _ n _ rfl HOr.out _ _ (bl l) rfl (Rd.of_blk HXL.out (by rw [bl_len, HL.out]) (by rw [bl_len, HL.out]; exact Nat.le_refl _) (by unfold maxLen; omega)) (bl_one l) (by rw [bl_len, HL.out]; unfold maxLen; omega) (by rw [bl_len, HL.out]; omega) (by have := HZr.out; omega) ?_
        intro v1 w1 ho1 hg1 hl1
        have HF1 := Lib.hid ((Fr.refl wr p v).app hg1 hl1)
        have HG1 := Lib.hid (HGw.out.fr HF1.out HSr.out)
        have HO1 : Hid (w1.ownsRow base 5 1 v1 (n + (bl l).length) (bl (res ++ l))) := Lib.hid (by rw [bl_app]; exact ho1)
        have HS1 : Hid (SrcAt w1 p sv (pos + 8 * i)) := Lib.hid (Blk.grown HSr.out hg1 (own_ne HOr.out HSr.out (by decide)))
        have HB1 : Hid (Below B w0 w1) := Lib.hid (below_grown HBr.out hg1 (own_lessP HOr.out hBb) HBs.out)
        have HZ1 : Hid (wr.heap.size ≤ w1.heap.size) := Lib.hid hg1.size
        have HX1 : Hid (Blk w1 wa.heap.size 5 (bl l).toArray) := Lib.hid (HXL.out.grown hg1 HGB.out)
        have HGN : Hid (some wa.heap.size ≠ v1.ownBlock) := Lib.hid (by
          rcases hl1 with hl1 | hl1
          · rw [hl1]; exact HGB.out
          · rw [hl1]; intro he; injection he with he; have := HZg.out; omega)
        have HOS1 : Hid (w1.ownsRow base 22 1 vs m us) := Lib.hid (own_grown HOSr.out hg1 (fun b hb he => by
          obtain ⟨cs, ty, fr, h1, h2⟩ := own_typeS HOr.out (e := 22) (by decide) b he
          obtain ⟨k1, ⟨rfl, _⟩ | ⟨r, cap, cur, rfl, hb', hr, rest⟩⟩ := HOSr.out
          · simp [Value.ownBlock] at hb
          · simp only [Value.ownBlock, Option.some.injEq] at hb
            subst hb
            rw [hr] at h1
            injection h1 with h1
            injection h1 with _ h6
            exact h2 h6.symm))
        clear ho1 hg1 hl1 HOSr HOr HSr HBr HXL HGw HF1
        go_wp2_with (with_reducible refine stop_at (o := ⟨some 55, _, _, _, _, _⟩) ?_)
        refine Lib.hid ?_
        have hob := own_up HOS1.out (bal (brf w1) (.cells #[.slice (some ⟨wa.heap.size, 0, none⟩) i i] 22))
        refine list_app2 rfl _ _ _ rfl base 22 i1 _ 24 Try.underlying29 hi1 hy0 hy1 hy2 rfl _ m _ rfl hob _ _ [.slice (some ⟨wa.heap.size, 0, none⟩) i i] rfl (Rd.one rfl _ _) (fun u hu => by simp at hu; subst hu; rfl) (by simp only [List.length_singleton]; unfold maxLen; omega) (by simp only [List.length_singleton]; omega) (by have := HZr.out; have := HZ1.out; simp; omega) ?_
        intro v2 w2 ho2 hg2 hl2
        have HO2 := Lib.hid (own_grown (own_up HO1.out (bal (brf w1) (.cells #[.slice (some ⟨wa.heap.size, 0, none⟩) i i] 22))) hg2 (fun b hb he => by
          obtain ⟨cs, ty, fr, h1, h2⟩ := own_typeS hob (e := 5) (by decide) b he
          obtain ⟨k1, ⟨rfl, _⟩ | ⟨r, cap, cur, rfl, hb', hr, rest⟩⟩ := own_up HO1.out (bal (brf w1) (.cells #[.slice (some ⟨wa.heap.size, 0, none⟩) i i] 22))
          · simp [Value.ownBlock] at hb
          · simp only [Value.ownBlock, Option.some.injEq] at hb
            subst hb
            rw [hr] at h1
            injection h1 with h1
            injection h1 with _ h6
            exact h2 h6.symm))
        have HG2 := Lib.hid (((HG1.out.snoc wa.heap.size l (by rw [HL.out]; unfold maxLen; omega) HX1.out HGN.out).up (bal (brf w1) (.cells #[.slice (some ⟨wa.heap.size, 0, none⟩) i i] 22))).other hob (by decide) hg2)
        have HS2 : Hid (SrcAt w2 p sv (pos + 8 * i)) := Lib.hid (Blk.grown (Blk.alloc HS1.out _) hg2 (own_ne hob (Blk.alloc HS1.out _) (by decide)))
        have HB2 : Hid (Below B w0 w2) := Lib.hid (below_grown (HB1.out.alloc (by have := HBs.out; have := HZ1.out; omega) _) hg2 (own_lessP hob hBb) (by have := HBs.out; have := HZ1.out; simp; omega))
        have HZ2 : Hid (w.heap.size ≤ w2.heap.size) := Lib.hid (by have h7 := HZ1.out; have h8 := HZr.out; have h5 := hg2.size; simp at h5; omega)
        have HOS2 := Lib.hid ho2
        clear ho2 hg2 hl2 hob HO1 HG1 HS1 HB1
        rw [HL.out] at HG2
        go_wp2_with fail
        go_ret3
        exact ⟨HB2.out, HZ2.out, .inr ⟨_, _, _, _, _, _, HRS.out, rfl, HS2.out, HO2.out, by rw [bl_len, List.length_append, HN.out], HOS2.out, HG2.out⟩⟩
end Go.Proofs.Ytjkfkkenaiodoaa
