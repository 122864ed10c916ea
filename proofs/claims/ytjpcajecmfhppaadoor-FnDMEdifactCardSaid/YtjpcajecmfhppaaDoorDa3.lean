/-
  WALK: decodeC40Segment.
-/
import Derived.Test.YtjpcajecmfhppaaDoorDa2
namespace Go.Proofs.YtjpcajecmfhppaaDoor
open Go.RowKit

theorem Fr.onlG {w w' w2 : World} {p g : Nat} {v v' : Value} (h : Fr w p v w' v') (k : Onl g w' w2) (hg : w.heap.size ≤ g) : Fr w p v w2 v' :=
  ⟨fun b h1 h2 h3 => (k.same b (Nat.lt_of_lt_of_le h1 h.size) (by omega)).trans (h.same b h1 h2 h3), h.ob, Nat.le_trans h.size k.size⟩
theorem drop_cons2 {bs r : List Nat} {j c d : Nat} (h : bs.drop j = c :: d :: r) : j + 1 < bs.length ∧ bs.getD j 0 = c ∧ bs.getD (j + 1) 0 = d ∧ bs.drop (j + 2) = r := by
  have h1 := drop_cons h.symm
  have h2 := drop_cons h1.2.2.symm
  exact ⟨h2.1, h1.2.1, h2.2.1, h2.2.2⟩
theorem three_drop (L : List Nat) (i : Nat) (h : i < L.length) : L.drop i = L.getD i 0 :: L.drop (i + 1) := by
  rw [List.drop_eq_getElem_cons h, List.getD, List.getElem?_eq_getElem h]; rfl
/-- What the next value says. -/
theorem c40S_next {s x : Nat} {r : List Nat} {t : List UInt8} (h : c40S s (x :: r) = some t) :
    (s = 0 ∧ x < 3 ∧ c40S (x + 1) r = some t) ∨ (∃ t', s = 0 ∧ 3 ≤ x ∧ x < 40 ∧ c40S 0 r = some t' ∧ t = UInt8.ofNat (bas x) :: t') ∨
    (∃ t', s = 1 ∧ x < 40 ∧ c40S 0 r = some t' ∧ t = UInt8.ofNat x :: t') ∨ (∃ t', s = 2 ∧ x < 27 ∧ c40S 0 r = some t' ∧ t = UInt8.ofNat (sh2 x) :: t') ∨ (∃ t', s = 3 ∧ x < 40 ∧ c40S 0 r = some t' ∧ t = UInt8.ofNat (x + 96) :: t') := by
  match s, h with
  | 0, h =>
    unfold c40S at h
    split at h
    · exact .inl ⟨rfl, by assumption, h⟩
    · split at h
      · obtain ⟨t', h1, h2⟩ := Option.map_eq_some_iff.1 h
        exact .inr (.inl ⟨t', rfl, by omega, by assumption, h1, h2.symm⟩)
      · cases h
  | 1, h =>
    unfold c40S at h
    split at h
    · obtain ⟨t', h1, h2⟩ := Option.map_eq_some_iff.1 h
      exact .inr (.inr (.inl ⟨t', rfl, by assumption, h1, h2.symm⟩))
    · cases h
  | 2, h =>
    unfold c40S at h
    split at h
    · obtain ⟨t', h1, h2⟩ := Option.map_eq_some_iff.1 h
      exact .inr (.inr (.inr (.inl ⟨t', rfl, by assumption, h1, h2.symm⟩)))
    · cases h
  | 3, h =>
    unfold c40S at h
    split at h
    · obtain ⟨t', h1, h2⟩ := Option.map_eq_some_iff.1 h
      exact .inr (.inr (.inr (.inr ⟨t', rfl, by assumption, h1, h2.symm⟩)))
    · cases h
  | s + 4, h => unfold c40S at h; cases h
set_option maxRecDepth 100000 in
set_option maxHeartbeats 4000000 in
theorem decC40_any {w0 : World} {B p : Nat} {sv : Value} {bs : List Nat} (h : SrcOk w0 B p sv bs) (q base n : Nat) (v mv : Value) (res t : List UInt8) (k : Nat) (w : World) (hb : Below B w0 w) (hs : SrcAt w p sv (8 * q)) (hc : C40P (bs.drop q) t k)
    (ho : w.ownsRow base 5 1 v n (bl res)) (hn : n = res.length) (hBb : B ≤ base) (hbw : base ≤ w.heap.size) (hn2 : n + t.length ≤ 100000000000) :
    Calls Tryd.prog 32 #[.pointer (some ⟨p, 0, none⟩), v, mv] w fun e w' => ∃ v', e = .returned (.tuple #[v', .nilIface]) ∧ SegQ w0 w B p base sv v (res ++ t) (q + k) w' v' := by
  obtain ⟨i0, hi0, hz0, hz1, hz2⟩ := info_parts info_u8P
  obtain ⟨vs, r, hdr, hv3, hcs, hk, hr1⟩ := hc
  have hl := h.len
  have HLT := Lib.hid h.lt
  have HK := Lib.hid h
  have HPW : Hid (p < w.heap.size) := Lib.hid (Blk.lt hs)
  have hw1 := bal (brf w) (.cells (rep 3 (.int .i64 0)) 3)
  have HO := Lib.hid (own_up ho hw1)
  have HS : Hid (SrcAt (w.alloc (.cells (rep 3 (.int .i64 0)) 3)) p sv (8 * q)) := Lib.hid (Blk.up hs hw1)
  have HB : Hid (Below B w0 (w.alloc (.cells (rep 3 (.int .i64 0)) 3))) := Lib.hid (hb.trans (hw1.mono (by omega)))
  have HZ := Lib.hid hw1.size
  have HG : Hid (∃ cs, Blk (w.alloc (.cells (rep 3 (.int .i64 0)) 3)) w.heap.size 3 cs ∧ cs.size = 3) := Lib.hid ⟨_, Blk.fresh w _ _, by simp [rep]⟩
  have HN := Lib.hid hn
  have HD := Lib.hid hdr
  have HC := Lib.hid hcs
  have HKK := Lib.hid hk
  have hqj : q ≤ bs.length := by
    have h1 := congrArg List.length hdr
    rw [List.length_drop, List.length_append, List.length_cons] at h1
    omega
  obtain ⟨vA, vcp, hvf, -, -⟩ := (RdT.of_own ho).rd.form
  obtain ⟨vn, hvn⟩ : ∃ x, x = (bl res).length := ⟨_, rfl⟩
  rw [← hvn] at hvf
  subst hvf
  have HF : Hid (Fr w p (.slice vA vn vcp) (w.alloc (.cells (rep 3 (.int .i64 0)) 3)) (.slice vA vn vcp)) := Lib.hid ((Fr.refl w p _).below hw1)
  clear h hb hs ho hn hvn hdr hcs hk hw1
  have hmk : ∀ w', (Instr.makeSlice 80 (.int .i64 3) (.int .i64 3)).run Tryd.prog w' = .ok (.slice (some ⟨w'.heap.size, 0, none⟩) 3 3) (w'.alloc (.cells (rep 3 (.int .i64 0)) 3)) := fun w' => run_mk (P := Tryd.prog) 80 3 (.int .i64 0) 8 Tryd.underlying80 (by kernel_rfl) rfl 3 (by omega) (by omega) w'
  go_enter Tryd.func32, Tryd.ntmps32
  go_wp2_with fail
  clear hmk
  go_loopw [1, 8, 10] (fun ov uv shv wr => ∃ (j st n' : Nat) (vs' : List Nat) (out t' : List UInt8), uv = .bool false ∧ shv = .int .i64 (st : Int) ∧ j ≤ bs.length ∧ vs'.length % 3 = 0 ∧ n' + t'.length ≤ 100000000000 ∧ Hid (wr.ownsRow base 5 1 ov n' (bl (res ++ out))) ∧ Hid (n' = (res ++ out).length) ∧ Hid (SrcAt wr p sv (8 * j)) ∧ Hid (∃ cs, Blk wr w.heap.size 3 cs ∧ cs.size = 3) ∧ Hid (bs.drop j = tripW vs' ++ 254 :: r) ∧ Hid (c40S st vs' = some t') ∧ Hid (out ++ t' = t ∧ j + 2 * (vs'.length / 3) + 1 = q + k) ∧ Hid (Below B w0 wr) ∧ Hid (w.heap.size ≤ wr.heap.size) ∧ Hid (Fr w p (.slice vA vn vcp) wr ov)) (fun _ _ _ wr => 8 * bs.length + 8 - posOf wr p)
  case atStart => exact ⟨q, 0, n, vs, [], t, rfl, rfl, hqj, hv3, hn2, by simpa using HO, by simpa using HN, HS, HG, HD, HC, Lib.hid ⟨rfl, by rw [HKK.out]; omega⟩, HB, HZ, HF⟩
  case round =>
    clear HO HN HS HB HZ HG HD HC HF HKK hn2 hqj hv3
    obtain ⟨j, st, n', vs', out, t', rfl, rfl, hj, hv3, hn2, HOr, HNr, HSr, HGr, HD, HC, HOT, HBr, HZr, HFr⟩ := hrel
    rename World => wr
    have hlen := congrArg List.length HD.out
    have htl := tripW_len vs'.length vs' (Nat.le_refl _) hv3
    rw [List.length_drop, List.length_append, List.length_cons, htl] at hlen
    have HPS : Hid (posOf wr p = 8 * j) := Lib.hid (posOf_at HSr.out)
    have hjl : j + 2 ≤ bs.length := by omega
    clear htl
    have hnil : vs' = [] ∨ ∃ a b c vs2, vs' = a :: b :: c :: vs2 := by
      match vs', hv3 with
      | [], _ => exact .inl rfl
      | [a], h => simp at h
      | [a, b], h => simp at h
      | a :: b :: c :: vs2, _ => exact .inr ⟨a, b, c, vs2, rfl⟩
    rcases hnil with rfl | ⟨a, b, c, vs2, rfl⟩
    · have h1 := drop_cons (show 254 :: r = bs.drop j from HD.out.symm)
      have HC8 : Hid (bs.getD j 0 = 254 ∧ bs.getD j 0 < 256) := Lib.hid ⟨h1.2.1, by rw [h1.2.1]; decide⟩
      have ht0 : t' = [] := by have := HC.out; unfold c40S at this; exact (Option.some.inj this).symm
      subst ht0
      clear h1 hlen HC
      -- as AVAIL, and the block of values stays
      have hav := avail_src HK.out (8 * j) wr HBr.out (by have := HZr.out; omega) HSr.out (by omega)
      obtain ⟨Ra, hRa⟩ : ∃ x, x = 8 * bs.length - (8 * j) := ⟨_, rfl⟩
      rw [← hRa] at hav
      have hRpa : 8 < Ra ∧ Ra ≤ 8 * bs.length := by omega
      clear hRa
      go_wp2_with fail
      refine hav.mono ?_
      rintro e wa ⟨rfl, hs2, ho2, hb2⟩
      have HOa := Lib.hid (own_onl HOr.out ho2 HSr.out (by decide))
      have HSa := Lib.hid hs2
      have HBa := Lib.hid hb2
      have HZa : Hid (w.heap.size ≤ wa.heap.size) := Lib.hid (Nat.le_trans HZr.out ho2.size)
      have HFa := Lib.hid (HFr.out.read ho2)
      have HGa : Hid (∃ cs, Blk wa w.heap.size 3 cs ∧ cs.size = 3) := Lib.hid (by obtain ⟨cs, h1, h2⟩ := HGr.out; exact ⟨cs, h1.onl ho2 (by have := HPW.out; omega), h2⟩)
      clear hs2 ho2 hb2 HOr HSr HBr HZr HFr hav HGr
      -- as AVAIL, and the block of values stays
      have hav := avail_src HK.out (8 * j) wa HBa.out (by have := HZa.out; omega) HSa.out (by omega)
      obtain ⟨Rb, hRb⟩ : ∃ x, x = 8 * bs.length - (8 * j) := ⟨_, rfl⟩
      rw [← hRb] at hav
      have hRpb : 8 < Rb ∧ Rb ≤ 8 * bs.length := by omega
      clear hRb
      go_wp2_with fail
      refine hav.mono ?_
      rintro e wb ⟨rfl, hs2, ho2, hb2⟩
      have HOb := Lib.hid (own_onl HOa.out ho2 HSa.out (by decide))
      have HSb := Lib.hid hs2
      have HBb := Lib.hid hb2
      have HZb : Hid (w.heap.size ≤ wb.heap.size) := Lib.hid (Nat.le_trans HZa.out ho2.size)
      have HFb := Lib.hid (HFa.out.read ho2)
      have HGb : Hid (∃ cs, Blk wb w.heap.size 3 cs ∧ cs.size = 3) := Lib.hid (by obtain ⟨cs, h1, h2⟩ := HGa.out; exact ⟨cs, h1.onl ho2 (by have := HPW.out; omega), h2⟩)
      clear hs2 ho2 hb2 HOa HSa HBa HZa HFa hav HGa
      have hne : ¬ (Rb : Int) = 8 := by omega
      -- the word 254 at place j is read (HC8 tells it): b old letter, c new letter
      have hrd : Calls Tryd.prog 44 #[.pointer (some ⟨p, 0, none⟩), .int .i64 8] wb fun e w' => e = .returned (.tuple #[.int .i64 ((254 : Nat) : Int), .nilIface]) ∧ SrcAt w' p sv (8 * (j + 1)) ∧ Onl p wb w' ∧ Below B w0 w' := by
        have h9 := rdBits_yes HK.out (8 * (j)) 8 wb HBb.out (by have := HZb.out; omega) HSb.out (by decide) (by decide) (by omega)
        rw [rb_byte bs (j) HC8.out.2, HC8.out.1] at h9
        exact h9
      go_wp2_with fail
      refine hrd.mono ?_
      rintro e wc ⟨rfl, hs2, ho2, hb2⟩
      have HOc := Lib.hid (own_onl HOb.out ho2 HSb.out (by decide))
      have HSc := Lib.hid hs2
      have HBc := Lib.hid hb2
      have HZc : Hid (w.heap.size ≤ wc.heap.size) := Lib.hid (Nat.le_trans HZb.out ho2.size)
      have HFc := Lib.hid (HFb.out.read ho2)
      have HGc : Hid (∃ cs, Blk wc w.heap.size 3 cs ∧ cs.size = 3) := Lib.hid (by obtain ⟨cs, h1, h2⟩ := HGb.out; exact ⟨cs, h1.onl ho2 (by have := HPW.out; omega), h2⟩)
      clear hs2 ho2 hb2 HOb HSb HBb HZb HFb hrd HGb
      have HOF : Hid (SegQ w0 w B p base sv (.slice vA vn vcp) (res ++ t) (q + k) wc _) := Lib.hid ⟨HBc.out, HZc.out, by rw [← HOT.out.2]; exact HSc.out, own_lenEq (by rw [← HOT.out.1, List.append_nil]; exact HOc.out) (by rw [← HOT.out.1, List.append_nil]; exact HNr.out), HFc.out⟩
      clear HOc HSc HBc HZc HFc
      go_wp2_with fail
      go_ret2
      exact ⟨_, rfl, HOF.out⟩
    · have h40 := c40S_lt _ _ _ HC.out
      have ha := h40 a (by simp)
      have hb := h40 b (by simp)
      have hc := h40 c (by simp)
      have hd := HD.out
      rw [tripW_cons, List.cons_append, List.cons_append] at hd
      obtain ⟨d1, d2, d3, d4⟩ := drop_cons2 hd
      obtain ⟨N, hN⟩ : ∃ N, N = 1600 * a + 40 * b + c + 1 := ⟨_, rfl⟩
      have hpar := fun x y z w' h => parse2_any a b c w.heap.size x y z w' ha hb hc h
      rw [← hN] at d2 d3 hpar
      obtain ⟨P1, hP1⟩ : ∃ p, p = N / 256 := ⟨_, rfl⟩
      obtain ⟨P2, hP2⟩ : ∃ q, q = N % 256 := ⟨_, rfl⟩
      rw [← hP1] at d2 hpar
      rw [← hP2] at d3 hpar
      have HC8 : Hid (bs.getD j 0 = P1 ∧ bs.getD j 0 < 256) := Lib.hid ⟨d2, by omega⟩
      have HC9 : Hid (bs.getD (j + 1) 0 = P2 ∧ bs.getD (j + 1) 0 < 256) := Lib.hid ⟨d3, by omega⟩
      have hp254 : P1 < 252 := by omega
      have HD2 : Hid (bs.drop (j + 2) = tripW vs2 ++ 254 :: r) := Lib.hid d4
      have HV2 : Hid (vs2.length % 3 = 0 ∧ j + 2 + 2 * (vs2.length / 3) + 1 = q + k) := Lib.hid (by
        have := HOT.out.2
        simp only [List.length_cons] at hv3 this
        omega)
      have HE0 : Hid (out ++ t' = t) := Lib.hid HOT.out.1
      have HPAR := Lib.hid hpar
      clear hd d2 d3 d4 hN hP1 hP2 h40 hlen hv3 HOT HD hpar
      -- as AVAIL, and the block of values stays
      have hav := avail_src HK.out (8 * j) wr HBr.out (by have := HZr.out; omega) HSr.out (by omega)
      obtain ⟨Ra, hRa⟩ : ∃ x, x = 8 * bs.length - (8 * j) := ⟨_, rfl⟩
      rw [← hRa] at hav
      have hRpa : 8 < Ra ∧ Ra ≤ 8 * bs.length := by omega
      clear hRa
      go_wp2_with fail
      refine hav.mono ?_
      rintro e wa ⟨rfl, hs2, ho2, hb2⟩
      have HOa := Lib.hid (own_onl HOr.out ho2 HSr.out (by decide))
      have HSa := Lib.hid hs2
      have HBa := Lib.hid hb2
      have HZa : Hid (w.heap.size ≤ wa.heap.size) := Lib.hid (Nat.le_trans HZr.out ho2.size)
      have HFa := Lib.hid (HFr.out.read ho2)
      have HGa : Hid (∃ cs, Blk wa w.heap.size 3 cs ∧ cs.size = 3) := Lib.hid (by obtain ⟨cs, h1, h2⟩ := HGr.out; exact ⟨cs, h1.onl ho2 (by have := HPW.out; omega), h2⟩)
      clear hs2 ho2 hb2 HOr HSr HBr HZr HFr hav HGr
      -- as AVAIL, and the block of values stays
      have hav := avail_src HK.out (8 * j) wa HBa.out (by have := HZa.out; omega) HSa.out (by omega)
      obtain ⟨Rb, hRb⟩ : ∃ x, x = 8 * bs.length - (8 * j) := ⟨_, rfl⟩
      rw [← hRb] at hav
      have hRpb : 8 < Rb ∧ Rb ≤ 8 * bs.length := by omega
      clear hRb
      go_wp2_with fail
      refine hav.mono ?_
      rintro e wb ⟨rfl, hs2, ho2, hb2⟩
      have HOb := Lib.hid (own_onl HOa.out ho2 HSa.out (by decide))
      have HSb := Lib.hid hs2
      have HBb := Lib.hid hb2
      have HZb : Hid (w.heap.size ≤ wb.heap.size) := Lib.hid (Nat.le_trans HZa.out ho2.size)
      have HFb := Lib.hid (HFa.out.read ho2)
      have HGb : Hid (∃ cs, Blk wb w.heap.size 3 cs ∧ cs.size = 3) := Lib.hid (by obtain ⟨cs, h1, h2⟩ := HGa.out; exact ⟨cs, h1.onl ho2 (by have := HPW.out; omega), h2⟩)
      clear hs2 ho2 hb2 HOa HSa HBa HZa HFa hav HGa
      have hne : ¬ (Rb : Int) = 8 := by omega
      -- the word P1 at place j is read (HC8 tells it): b old letter, c new letter
      have hrd : Calls Tryd.prog 44 #[.pointer (some ⟨p, 0, none⟩), .int .i64 8] wb fun e w' => e = .returned (.tuple #[.int .i64 ((P1 : Nat) : Int), .nilIface]) ∧ SrcAt w' p sv (8 * (j + 1)) ∧ Onl p wb w' ∧ Below B w0 w' := by
        have h9 := rdBits_yes HK.out (8 * (j)) 8 wb HBb.out (by have := HZb.out; omega) HSb.out (by decide) (by decide) (by omega)
        rw [rb_byte bs (j) HC8.out.2, HC8.out.1] at h9
        exact h9
      go_wp2_with fail
      refine hrd.mono ?_
      rintro e wc ⟨rfl, hs2, ho2, hb2⟩
      have HOc := Lib.hid (own_onl HOb.out ho2 HSb.out (by decide))
      have HSc := Lib.hid hs2
      have HBc := Lib.hid hb2
      have HZc : Hid (w.heap.size ≤ wc.heap.size) := Lib.hid (Nat.le_trans HZb.out ho2.size)
      have HFc := Lib.hid (HFb.out.read ho2)
      have HGc : Hid (∃ cs, Blk wc w.heap.size 3 cs ∧ cs.size = 3) := Lib.hid (by obtain ⟨cs, h1, h2⟩ := HGb.out; exact ⟨cs, h1.onl ho2 (by have := HPW.out; omega), h2⟩)
      clear hs2 ho2 hb2 HOb HSb HBb HZb HFb hrd HGb
      -- the word P2 at place j + 1 is read (HC9 tells it): c old letter, d new letter
      have hrd : Calls Tryd.prog 44 #[.pointer (some ⟨p, 0, none⟩), .int .i64 8] wc fun e w' => e = .returned (.tuple #[.int .i64 ((P2 : Nat) : Int), .nilIface]) ∧ SrcAt w' p sv (8 * (j + 1 + 1)) ∧ Onl p wc w' ∧ Below B w0 w' := by
        have h9 := rdBits_yes HK.out (8 * (j + 1)) 8 wc HBc.out (by have := HZc.out; omega) HSc.out (by decide) (by decide) (by omega)
        rw [rb_byte bs (j + 1) HC9.out.2, HC9.out.1] at h9
        exact h9
      go_wp2_with fail
      refine hrd.mono ?_
      rintro e wd ⟨rfl, hs2, ho2, hb2⟩
      have HOd := Lib.hid (own_onl HOc.out ho2 HSc.out (by decide))
      have HSd := Lib.hid hs2
      have HBd := Lib.hid hb2
      have HZd : Hid (w.heap.size ≤ wd.heap.size) := Lib.hid (Nat.le_trans HZc.out ho2.size)
      have HFd := Lib.hid (HFc.out.read ho2)
      have HGd : Hid (∃ cs, Blk wd w.heap.size 3 cs ∧ cs.size = 3) := Lib.hid (by obtain ⟨cs, h1, h2⟩ := HGc.out; exact ⟨cs, h1.onl ho2 (by have := HPW.out; omega), h2⟩)
      clear hs2 ho2 hb2 HOc HSc HBc HZc HFc hrd HGc
      have hw3 : ∃ x y z, Blk wd w.heap.size 3 #[x, y, z] := by
        obtain ⟨cs, h1, h2⟩ := HGd.out
        match cs, h2 with
        | ⟨[x, y, z]⟩, _ => exact ⟨x, y, z, h1⟩
      obtain ⟨x, y, z, hbl⟩ := hw3
      have HBL := Lib.hid hbl
      clear hbl HGd
      go_wp2_with fail
      refine (HPAR.out x y z _ HBL.out).mono ?_
      rintro e we ⟨rfl, hg2, ho2⟩
      have HOe := Lib.hid (own_onl HOd.out ho2 HBL.out (by decide))
      have HSe : Hid (SrcAt we p sv (8 * (j + 2))) := Lib.hid (Blk.onl HSd.out ho2 (by have := HPW.out; omega))
      have HBe : Hid (Below B w0 we) := Lib.hid (ho2.below B w0 HBd.out (by omega) (by have := HZd.out; omega))
      have HZe : Hid (w.heap.size ≤ we.heap.size) := Lib.hid (Nat.le_trans HZd.out ho2.size)
      have HFe := Lib.hid (HFd.out.onlG ho2 (Nat.le_refl _))
      have HGe := Lib.hid hg2
      clear hg2 ho2 HOd HSd HBd HZd HFd HBL HPAR hp254 hne
      have HC3 : Hid (c40S st ((a :: b :: c :: vs2).drop 0) = some t') := Lib.hid HC.out
      clear HC
      go_wp2_with fail
      have hn8 : n' + t'.length ≤ 100000000000 := hn2
      go_loopw [1, 8, 10, 15] (fun ov uv shv iv wq => ∃ (i st n2 : Nat) (out2 t2 : List UInt8), uv = .bool false ∧ shv = .int .i64 (st : Int) ∧ iv = .int .i64 (i : Int) ∧ i ≤ 3 ∧ n2 + t2.length ≤ 100000000000 ∧ Hid (wq.ownsRow base 5 1 ov n2 (bl (res ++ out2))) ∧ Hid (n2 = (res ++ out2).length) ∧ Hid (SrcAt wq p sv (8 * (j + 2))) ∧ Hid (Blk wq w.heap.size 3 #[.int .i64 (a : Int), .int .i64 (b : Int), .int .i64 (c : Int)]) ∧ Hid (c40S st ((a :: b :: c :: vs2).drop i) = some t2) ∧ Hid (out2 ++ t2 = t) ∧ Hid (Below B w0 wq) ∧ Hid (w.heap.size ≤ wq.heap.size) ∧ Hid (Fr w p (.slice vA vn vcp) wq ov)) (fun _ _ _ iv _ => 3 - (intOf iv).toNat)
      case atStart => exact ⟨0, st, n', out, t', rfl, rfl, rfl, by omega, hn8, HOe, HNr, HSe, HGe, HC3, HE0, HBe, HZe, HFe⟩
      case round =>
        rename World => wq
        clear HOe HNr HSe HGe HC3 HE0 HBe HZe HFe hn8 hn2
        obtain ⟨i, s2, n2, out2, t2, rfl, rfl, rfl, hi3, hn2, HOq, HN2, HSq, HGq, HC3, HE2, HBq, HZq, HFq⟩ := hrel
        by_cases hlt : i < 3
        · obtain ⟨x, hx⟩ : ∃ x, x = (a :: b :: c :: vs2).getD i 0 := ⟨_, rfl⟩
          have hcell : wq.cell? ⟨w.heap.size, i, none⟩ = some (.int .i64 (x : Int)) := by
            rw [HGq.out.cell, hx]
            have hi : i = 0 ∨ i = 1 ∨ i = 2 := by omega
            rcases hi with rfl | rfl | rfl <;> rfl
          have hst := HC3.out
          rw [three_drop _ i (by simp only [List.length_cons]; omega), ← hx] at hst
          clear HC3 hx
          rcases c40S_next hst with ⟨rfl, hx3, hr⟩ | ⟨tt, rfl, hx3, hx40, hr, rfl⟩ | ⟨tt, rfl, hx40, hr, rfl⟩ | ⟨tt, rfl, hx27, hr, rfl⟩ | ⟨tt, rfl, hx40, hr, rfl⟩
          · have HC9 := Lib.hid hr
            clear hst hr
            go_wp2_with fail
            go_roundw
            case rel => exact ⟨i + 1, x + 1, n2, out2, t2, rfl, by go_num, by go_num, by omega, hn2, HOq, HN2, HSq, HGq, HC9, HE2, HBq, HZq, HFq⟩
            case measure => simp [intOf]; omega
          · have HC9 := Lib.hid hr
            rw [List.length_cons] at hn2
            obtain ⟨y, hy⟩ : ∃ y, y = bas x := ⟨_, rfl⟩
            have hy2 : y < 128 := by rw [hy]; exact bas_lt x hx40
            have HDG : Hid (bl [UInt8.ofNat (bas x)] = [.int .u8 (y : Int)]) := Lib.hid (by rw [← hy]; exact bl_single _ (by omega))
            have hta : (wv8 basL).toArray[x]? = some (.int .u8 (y : Int)) := by rw [hy]; simp [wv8, basL_at x hx40 hx3]
            have hn3 : n2 ≤ 100000000000 := by omega
            clear hst hr hy
            go_wp2_with fail
            -- a table's contract bas_any: old letter q, new letter ta: block gta
            refine (bas_any _).mono ?_
            rintro e wta ⟨gta, rfl, hgt, hbt⟩
            have HOta := Lib.hid (own_up HOq.out hbt)
            have HSta : Hid (SrcAt wta p sv (8 * (j + 2))) := Lib.hid (Blk.up HSq.out hbt)
            have HGta := Lib.hid (Blk.up HGq.out hbt)
            have HBta : Hid (Below B w0 wta) := Lib.hid (HBq.out.trans (hbt.mono (by have := HZq.out; omega)))
            have HZta : Hid (w.heap.size ≤ wta.heap.size) := Lib.hid (Nat.le_trans HZq.out hbt.size)
            have HFta := Lib.hid (HFq.out.below hbt)
            have HTta := Lib.hid hgt
            clear hgt hbt HOq HSq HGq HBq HZq HFq
            go_wp2_with fail
            -- a table's contract bas_any: old letter ta, new letter tb: block gtb
            refine (bas_any _).mono ?_
            rintro e wtb ⟨gtb, rfl, hgt, hbt⟩
            have HOtb := Lib.hid (own_up HOta.out hbt)
            have HStb : Hid (SrcAt wtb p sv (8 * (j + 2))) := Lib.hid (Blk.up HSta.out hbt)
            have HGtb := Lib.hid (Blk.up HGta.out hbt)
            have HBtb : Hid (Below B w0 wtb) := Lib.hid (HBta.out.trans (hbt.mono (by have := HZta.out; omega)))
            have HZtb : Hid (w.heap.size ≤ wtb.heap.size) := Lib.hid (Nat.le_trans HZta.out hbt.size)
            have HFtb := Lib.hid (HFta.out.below hbt)
            have HTtb := Lib.hid hgt
            clear hgt hbt HOta HSta HGta HBta HZta HFta
            have hcy : wtb.cell? ⟨gtb, x, none⟩ = some (.int .u8 (y : Int)) := by rw [HTtb.out.cell]; exact hta
            -- as DAPP, and the block of the values a b c stays
            go_wp2_with (with_reducible refine stop_at (o := ⟨some 82, _, _, _, _, _⟩) ?_)
            refine Lib.hid ?_
            have hob := own_up HOtb.out (bal (brf wtb) (.cells #[.int .u8 (y : Int)] 5))
            refine list_app2 rfl _ _ _ rfl base 5 i0 _ 1 Tryd.underlying27 hi0 hz0 hz1 hz2 rfl _ (n2) _ rfl hob _ _ [.int .u8 (y : Int)] rfl (Rd.one rfl _ _) (fun u hu => by simp at hu; subst hu; rfl) (by simp only [List.length_singleton]; unfold maxLen; omega) (by simp only [List.length_singleton]; omega) (by have := HZtb.out; simp; omega) ?_
            intro vz wz ho1 hg1 hl1
            have HFz : Hid (Fr w p _ wz vz) := Lib.hid ((HFtb.out.below (bal (brf wtb) (.cells #[.int .u8 (y : Int)] 5))).app hg1 hl1)
            have HOz : Hid (wz.ownsRow base 5 1 vz (n2 + 1) (bl (res ++ out2 ++ [UInt8.ofNat (bas x)]))) := Lib.hid (by rw [bl_app, HDG.out]; exact ho1)
            have HSz : Hid (SrcAt wz p sv (8 * (j + 2))) := Lib.hid (Blk.grown (Blk.alloc HStb.out _) hg1 (own_ne hob (Blk.alloc HStb.out _) (by decide)))
            have HGz : Hid (Blk wz w.heap.size 3 #[.int .i64 (a : Int), .int .i64 (b : Int), .int .i64 (c : Int)]) := Lib.hid (Blk.grown (Blk.alloc HGtb.out _) hg1 (own_ne hob (Blk.alloc HGtb.out _) (by decide)))
            have HBz : Hid (Below B w0 wz) := Lib.hid (below_grown (HBtb.out.alloc (by have := HZtb.out; omega) _) hg1 (own_lessP hob hBb) (by have := HZtb.out; simp; omega))
            have HZz : Hid (w.heap.size ≤ wz.heap.size) := Lib.hid (Nat.le_trans HZtb.out (Nat.le_trans (by simp) hg1.size))
            clear ho1 hg1 hl1 hob HOtb HStb HBtb HZtb HFtb HDG HGtb
            -- behind an append in the inner loop: z letter, UInt8.ofNat (bas x) the byte, HC9 the rest's fact
            have HO9 : Hid (wz.ownsRow base 5 1 vz (n2 + 1) (bl (res ++ (out2 ++ [UInt8.ofNat (bas x)])))) := Lib.hid (by rw [← List.append_assoc]; exact HOz.out)
            have HN9 : Hid (n2 + 1 = (res ++ (out2 ++ [UInt8.ofNat (bas x)])).length) := Lib.hid (by rw [← List.append_assoc, List.length_append, ← HN2.out]; rfl)
            have HE9 : Hid (out2 ++ [UInt8.ofNat (bas x)] ++ tt = t) := Lib.hid (by rw [List.append_assoc]; exact HE2.out)
            clear HOz HN2 HE2
            go_wp2_with fail
            go_roundw
            case rel => exact ⟨i + 1, 0, n2 + 1, _, tt, rfl, by go_num, rfl, by omega, by omega, HO9, HN9, HSz, HGz, HC9, HE9, HBz, HZz, HFz⟩
            case measure => simp [intOf]; omega
          · have HC9 := Lib.hid hr
            rw [List.length_cons] at hn2
            have HDG : Hid (bl [UInt8.ofNat x] = [.int .u8 (x : Int)]) := Lib.hid (bl_single _ (by omega))
            have hn3 : n2 ≤ 100000000000 := by omega
            clear hst hr
            -- as DAPP, and the block of the values a b c stays
            go_wp2_with (with_reducible refine stop_at (o := ⟨some 102, _, _, _, _, _⟩) ?_)
            refine Lib.hid ?_
            have hob := own_up HOq.out (bal (brf wq) (.cells #[.int .u8 (x : Int)] 5))
            refine list_app2 rfl _ _ _ rfl base 5 i0 _ 1 Tryd.underlying27 hi0 hz0 hz1 hz2 rfl _ (n2) _ rfl hob _ _ [.int .u8 (x : Int)] rfl (Rd.one rfl _ _) (fun u hu => by simp at hu; subst hu; rfl) (by simp only [List.length_singleton]; unfold maxLen; omega) (by simp only [List.length_singleton]; omega) (by have := HZq.out; simp; omega) ?_
            intro vz wz ho1 hg1 hl1
            have HFz : Hid (Fr w p _ wz vz) := Lib.hid ((HFq.out.below (bal (brf wq) (.cells #[.int .u8 (x : Int)] 5))).app hg1 hl1)
            have HOz : Hid (wz.ownsRow base 5 1 vz (n2 + 1) (bl (res ++ out2 ++ [UInt8.ofNat x]))) := Lib.hid (by rw [bl_app, HDG.out]; exact ho1)
            have HSz : Hid (SrcAt wz p sv (8 * (j + 2))) := Lib.hid (Blk.grown (Blk.alloc HSq.out _) hg1 (own_ne hob (Blk.alloc HSq.out _) (by decide)))
            have HGz : Hid (Blk wz w.heap.size 3 #[.int .i64 (a : Int), .int .i64 (b : Int), .int .i64 (c : Int)]) := Lib.hid (Blk.grown (Blk.alloc HGq.out _) hg1 (own_ne hob (Blk.alloc HGq.out _) (by decide)))
            have HBz : Hid (Below B w0 wz) := Lib.hid (below_grown (HBq.out.alloc (by have := HZq.out; omega) _) hg1 (own_lessP hob hBb) (by have := HZq.out; simp; omega))
            have HZz : Hid (w.heap.size ≤ wz.heap.size) := Lib.hid (Nat.le_trans HZq.out (Nat.le_trans (by simp) hg1.size))
            clear ho1 hg1 hl1 hob HOq HSq HBq HZq HFq HDG HGq
            -- behind an append in the inner loop: z letter, UInt8.ofNat x the byte, HC9 the rest's fact
            have HO9 : Hid (wz.ownsRow base 5 1 vz (n2 + 1) (bl (res ++ (out2 ++ [UInt8.ofNat x])))) := Lib.hid (by rw [← List.append_assoc]; exact HOz.out)
            have HN9 : Hid (n2 + 1 = (res ++ (out2 ++ [UInt8.ofNat x])).length) := Lib.hid (by rw [← List.append_assoc, List.length_append, ← HN2.out]; rfl)
            have HE9 : Hid (out2 ++ [UInt8.ofNat x] ++ tt = t) := Lib.hid (by rw [List.append_assoc]; exact HE2.out)
            clear HOz HN2 HE2
            go_wp2_with fail
            go_roundw
            case rel => exact ⟨i + 1, 0, n2 + 1, _, tt, rfl, by go_num, rfl, by omega, by omega, HO9, HN9, HSz, HGz, HC9, HE9, HBz, HZz, HFz⟩
            case measure => simp [intOf]; omega
          · have HC9 := Lib.hid hr
            rw [List.length_cons] at hn2
            obtain ⟨y, hy⟩ : ∃ y, y = sh2 x := ⟨_, rfl⟩
            have hy2 : y < 128 := by rw [hy]; exact sh2_lt x hx27
            have HDG : Hid (bl [UInt8.ofNat (sh2 x)] = [.int .u8 (y : Int)]) := Lib.hid (by rw [← hy]; exact bl_single _ (by omega))
            have hta : (wv8 sh2L).toArray[x]? = some (.int .u8 (y : Int)) := by rw [hy]; simp [wv8, sh2L_at x hx27]
            have hn3 : n2 ≤ 100000000000 := by omega
            clear hst hr hy
            go_wp2_with fail
            -- a table's contract sh2_any: old letter q, new letter ta: block gta
            refine (sh2_any _).mono ?_
            rintro e wta ⟨gta, rfl, hgt, hbt⟩
            have HOta := Lib.hid (own_up HOq.out hbt)
            have HSta : Hid (SrcAt wta p sv (8 * (j + 2))) := Lib.hid (Blk.up HSq.out hbt)
            have HGta := Lib.hid (Blk.up HGq.out hbt)
            have HBta : Hid (Below B w0 wta) := Lib.hid (HBq.out.trans (hbt.mono (by have := HZq.out; omega)))
            have HZta : Hid (w.heap.size ≤ wta.heap.size) := Lib.hid (Nat.le_trans HZq.out hbt.size)
            have HFta := Lib.hid (HFq.out.below hbt)
            have HTta := Lib.hid hgt
            clear hgt hbt HOq HSq HGq HBq HZq HFq
            go_wp2_with fail
            -- a table's contract sh2_any: old letter ta, new letter tb: block gtb
            refine (sh2_any _).mono ?_
            rintro e wtb ⟨gtb, rfl, hgt, hbt⟩
            have HOtb := Lib.hid (own_up HOta.out hbt)
            have HStb : Hid (SrcAt wtb p sv (8 * (j + 2))) := Lib.hid (Blk.up HSta.out hbt)
            have HGtb := Lib.hid (Blk.up HGta.out hbt)
            have HBtb : Hid (Below B w0 wtb) := Lib.hid (HBta.out.trans (hbt.mono (by have := HZta.out; omega)))
            have HZtb : Hid (w.heap.size ≤ wtb.heap.size) := Lib.hid (Nat.le_trans HZta.out hbt.size)
            have HFtb := Lib.hid (HFta.out.below hbt)
            have HTtb := Lib.hid hgt
            clear hgt hbt HOta HSta HGta HBta HZta HFta
            have hcy : wtb.cell? ⟨gtb, x, none⟩ = some (.int .u8 (y : Int)) := by rw [HTtb.out.cell]; exact hta
            -- as DAPP, and the block of the values a b c stays
            go_wp2_with (with_reducible refine stop_at (o := ⟨some 122, _, _, _, _, _⟩) ?_)
            refine Lib.hid ?_
            have hob := own_up HOtb.out (bal (brf wtb) (.cells #[.int .u8 (y : Int)] 5))
            refine list_app2 rfl _ _ _ rfl base 5 i0 _ 1 Tryd.underlying27 hi0 hz0 hz1 hz2 rfl _ (n2) _ rfl hob _ _ [.int .u8 (y : Int)] rfl (Rd.one rfl _ _) (fun u hu => by simp at hu; subst hu; rfl) (by simp only [List.length_singleton]; unfold maxLen; omega) (by simp only [List.length_singleton]; omega) (by have := HZtb.out; simp; omega) ?_
            intro vz wz ho1 hg1 hl1
            have HFz : Hid (Fr w p _ wz vz) := Lib.hid ((HFtb.out.below (bal (brf wtb) (.cells #[.int .u8 (y : Int)] 5))).app hg1 hl1)
            have HOz : Hid (wz.ownsRow base 5 1 vz (n2 + 1) (bl (res ++ out2 ++ [UInt8.ofNat (sh2 x)]))) := Lib.hid (by rw [bl_app, HDG.out]; exact ho1)
            have HSz : Hid (SrcAt wz p sv (8 * (j + 2))) := Lib.hid (Blk.grown (Blk.alloc HStb.out _) hg1 (own_ne hob (Blk.alloc HStb.out _) (by decide)))
            have HGz : Hid (Blk wz w.heap.size 3 #[.int .i64 (a : Int), .int .i64 (b : Int), .int .i64 (c : Int)]) := Lib.hid (Blk.grown (Blk.alloc HGtb.out _) hg1 (own_ne hob (Blk.alloc HGtb.out _) (by decide)))
            have HBz : Hid (Below B w0 wz) := Lib.hid (below_grown (HBtb.out.alloc (by have := HZtb.out; omega) _) hg1 (own_lessP hob hBb) (by have := HZtb.out; simp; omega))
            have HZz : Hid (w.heap.size ≤ wz.heap.size) := Lib.hid (Nat.le_trans HZtb.out (Nat.le_trans (by simp) hg1.size))
            clear ho1 hg1 hl1 hob HOtb HStb HBtb HZtb HFtb HDG HGtb
            -- behind an append in the inner loop: z letter, UInt8.ofNat (sh2 x) the byte, HC9 the rest's fact
            have HO9 : Hid (wz.ownsRow base 5 1 vz (n2 + 1) (bl (res ++ (out2 ++ [UInt8.ofNat (sh2 x)])))) := Lib.hid (by rw [← List.append_assoc]; exact HOz.out)
            have HN9 : Hid (n2 + 1 = (res ++ (out2 ++ [UInt8.ofNat (sh2 x)])).length) := Lib.hid (by rw [← List.append_assoc, List.length_append, ← HN2.out]; rfl)
            have HE9 : Hid (out2 ++ [UInt8.ofNat (sh2 x)] ++ tt = t) := Lib.hid (by rw [List.append_assoc]; exact HE2.out)
            clear HOz HN2 HE2
            go_wp2_with fail
            go_roundw
            case rel => exact ⟨i + 1, 0, n2 + 1, _, tt, rfl, by go_num, rfl, by omega, by omega, HO9, HN9, HSz, HGz, HC9, HE9, HBz, HZz, HFz⟩
            case measure => simp [intOf]; omega
          · have HC9 := Lib.hid hr
            rw [List.length_cons] at hn2
            obtain ⟨y, hy⟩ : ∃ y, y = x + 96 := ⟨_, rfl⟩
            have e1 : (x : Int) + 96 = (y : Int) := by omega
            have hy2 : y < 256 := by omega
            have HDG : Hid (bl [UInt8.ofNat (x + 96)] = [.int .u8 (y : Int)]) := Lib.hid (by rw [← hy]; exact bl_single _ (by omega))
            have hn3 : n2 ≤ 100000000000 := by omega
            clear hst hr hy
            -- as DAPP, and the block of the values a b c stays
            go_wp2_with (with_reducible refine stop_at (o := ⟨some 155, _, _, _, _, _⟩) ?_)
            refine Lib.hid ?_
            have hob := own_up HOq.out (bal (brf wq) (.cells #[.int .u8 (y : Int)] 5))
            refine list_app2 rfl _ _ _ rfl base 5 i0 _ 1 Tryd.underlying27 hi0 hz0 hz1 hz2 rfl _ (n2) _ rfl hob _ _ [.int .u8 (y : Int)] rfl (Rd.one rfl _ _) (fun u hu => by simp at hu; subst hu; rfl) (by simp only [List.length_singleton]; unfold maxLen; omega) (by simp only [List.length_singleton]; omega) (by have := HZq.out; simp; omega) ?_
            intro vz wz ho1 hg1 hl1
            have HFz : Hid (Fr w p _ wz vz) := Lib.hid ((HFq.out.below (bal (brf wq) (.cells #[.int .u8 (y : Int)] 5))).app hg1 hl1)
            have HOz : Hid (wz.ownsRow base 5 1 vz (n2 + 1) (bl (res ++ out2 ++ [UInt8.ofNat (x + 96)]))) := Lib.hid (by rw [bl_app, HDG.out]; exact ho1)
            have HSz : Hid (SrcAt wz p sv (8 * (j + 2))) := Lib.hid (Blk.grown (Blk.alloc HSq.out _) hg1 (own_ne hob (Blk.alloc HSq.out _) (by decide)))
            have HGz : Hid (Blk wz w.heap.size 3 #[.int .i64 (a : Int), .int .i64 (b : Int), .int .i64 (c : Int)]) := Lib.hid (Blk.grown (Blk.alloc HGq.out _) hg1 (own_ne hob (Blk.alloc HGq.out _) (by decide)))
            have HBz : Hid (Below B w0 wz) := Lib.hid (below_grown (HBq.out.alloc (by have := HZq.out; omega) _) hg1 (own_lessP hob hBb) (by have := HZq.out; simp; omega))
            have HZz : Hid (w.heap.size ≤ wz.heap.size) := Lib.hid (Nat.le_trans HZq.out (Nat.le_trans (by simp) hg1.size))
            clear ho1 hg1 hl1 hob HOq HSq HBq HZq HFq HDG HGq
            clear e1
            -- behind an append in the inner loop: z letter, UInt8.ofNat (x + 96) the byte, HC9 the rest's fact
            have HO9 : Hid (wz.ownsRow base 5 1 vz (n2 + 1) (bl (res ++ (out2 ++ [UInt8.ofNat (x + 96)])))) := Lib.hid (by rw [← List.append_assoc]; exact HOz.out)
            have HN9 : Hid (n2 + 1 = (res ++ (out2 ++ [UInt8.ofNat (x + 96)])).length) := Lib.hid (by rw [← List.append_assoc, List.length_append, ← HN2.out]; rfl)
            have HE9 : Hid (out2 ++ [UInt8.ofNat (x + 96)] ++ tt = t) := Lib.hid (by rw [List.append_assoc]; exact HE2.out)
            clear HOz HN2 HE2
            go_wp2_with fail
            go_roundw
            case rel => exact ⟨i + 1, 0, n2 + 1, _, tt, rfl, by go_num, rfl, by omega, by omega, HO9, HN9, HSz, HGz, HC9, HE9, HBz, HZz, HFz⟩
            case measure => simp [intOf]; omega
        · have hi : i = 3 := by omega
          have HC9 : Hid (c40S s2 vs2 = some t2) := Lib.hid (by have h := HC3.out; rw [hi] at h; exact h)
          clear hi HC3
          have HGz : Hid (∃ cs, Blk wq w.heap.size 3 cs ∧ cs.size = 3) := Lib.hid ⟨_, HGq.out, rfl⟩
          go_wp2_with fail
          go_roundw
          case rel => exact ⟨j + 2, s2, n2, vs2, out2, t2, rfl, rfl, hjl, HV2.out.1, hn2, HOq, HN2, HSq, HGz, HD2, HC9, Lib.hid ⟨HE2.out, HV2.out.2⟩, HBq, HZq, HFq⟩
          case measure => rw [posOf_at HSq.out, HPS.out]; omega
end Go.Proofs.YtjpcajecmfhppaaDoor
