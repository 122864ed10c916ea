/-
  WALK: decodeEdifactSegment.
-/
import Derived.Test.YtjpcajecmfhppaaDoorDa3
namespace Go.Proofs.YtjpcajecmfhppaaDoor
open Go.RowKit

theorem getOff_any {p pos : Nat} {sv : Value} (w : World) (h : SrcAt w p sv pos) : Calls Tryd.prog 53 #[.pointer (some ⟨p, 0, none⟩)] w fun e w' => e = .returned (.int .i64 ((pos % 8 : Nat) : Int)) ∧ w' = w := by
  have c2 : w.cell? ⟨p, 2, none⟩ = some (.int .i64 ((pos % 8 : Nat) : Int)) := by rw [Blk.cell h]; rfl
  go_enter Tryd.func53, Tryd.ntmps53
  go_wp2
  go_ret
  exact ⟨rfl, rfl⟩
theorem edi_bits : ∀ c, c < 95 → 32 ≤ c → (c % 64 ≠ 31) ∧ (64 ≤ c → c % 64 &&& 32 = 0 ∧ c % 64 ||| 64 = c) ∧ (c < 64 → c % 64 &&& 32 = 32 ∧ c % 64 = c) := by decide +kernel
set_option maxRecDepth 100000 in
set_option maxHeartbeats 4000000 in
theorem decEdi_any {w0 : World} {B p : Nat} {sv : Value} {bs : List Nat} (h : SrcOk w0 B p sv bs) (q base n : Nat) (v : Value) (res t : List UInt8) (k : Nat) (w : World) (hb : Below B w0 w) (hs : SrcAt w p sv (8 * q)) (he : EdiP (bs.drop q) t k)
    (ho : w.ownsRow base 5 1 v n (bl res)) (hn : n = res.length) (hBb : B ≤ base) (hbw : base ≤ w.heap.size) (hn2 : n + t.length ≤ 100000000000) (hq : q ≤ bs.length) :
    Calls Tryd.prog 35 #[.pointer (some ⟨p, 0, none⟩), v] w fun e w' => ∃ v', e = .returned v' ∧ SegQ w0 w B p base sv v (res ++ t) (q + k) w' v' := by
  obtain ⟨i0, hi0, hz0, hz1, hz2⟩ := info_parts info_u8P
  obtain ⟨hj, hend, hk, hroom⟩ := he
  rw [List.length_drop] at hroom
  have hl := h.len
  have hj2 : ∀ (j : Nat) (c : UInt8), t[j]? = some c → 32 ≤ c.toNat ∧ c.toNat ≤ 94 ∧ rb bs (8 * q + 6 * j) 6 = c.toNat % 64 := fun j c h1 => by
    have := hj j c h1
    rw [rb_drop] at this; exact this
  rw [rb_drop] at hend
  have HJ := Lib.hid hj2
  have HE := Lib.hid hend
  have HK := Lib.hid h
  have HKK := Lib.hid hk
  have HS := Lib.hid hs
  have HB := Lib.hid hb
  have HO := Lib.hid ho
  have HN := Lib.hid hn
  have HPW : Hid (p < w.heap.size) := Lib.hid (Blk.lt hs)
  obtain ⟨vA, vcp, hvf, -, -⟩ := (RdT.of_own ho).rd.form
  obtain ⟨vn, hvn⟩ : ∃ x, x = (bl res).length := ⟨_, rfl⟩
  rw [← hvn] at hvf
  subst hvf
  clear h hb hs ho hn hvn hk hj hj2 hend
  go_enter Tryd.func35, Tryd.ntmps35
  go_wp2_with fail
  go_loopw [1] (fun ov wr => ∃ (m n' : Nat), m ≤ t.length ∧ n' ≤ n + m ∧ Hid (wr.ownsRow base 5 1 ov n' (bl (res ++ t.take m))) ∧ Hid (n' = (res ++ t.take m).length) ∧ Hid (SrcAt wr p sv (8 * q + 6 * m)) ∧ Hid (Below B w0 wr) ∧ Hid (w.heap.size ≤ wr.heap.size) ∧ Hid (Fr w p (.slice vA vn vcp) wr ov)) (fun _ wr => 8 * bs.length + 8 - posOf wr p)
  case atStart => exact ⟨0, n, Nat.zero_le _, Nat.le_refl _, by simpa using HO, by simpa using HN, HS, HB, Lib.hid (Nat.le_refl _), Lib.hid (Fr.refl w p _)⟩
  case round =>
    clear HO HN HS HB
    obtain ⟨m, n', hm, hnm, HOr, HNr, HSr, HBr, HZr, HFr⟩ := hrel
    rename World => wr
    have HPS : Hid (posOf wr p = 8 * q + 6 * m) := Lib.hid (posOf_at HSr.out)
    obtain ⟨P, hP⟩ : ∃ P, P = 8 * q + 6 * m := ⟨_, rfl⟩
    have hPb : P + 30 ≤ 8 * bs.length := by omega
    rw [← hP] at HSr
    have HPP := Lib.hid hP
    clear hP
    -- bits.Available() at position P: r old letter, a new letter; R = how many
    have hav := avail_src HK.out (P) wr HBr.out (by have := HZr.out; omega) HSr.out (by omega)
    obtain ⟨Ra, hRa⟩ : ∃ x, x = 8 * bs.length - (P) := ⟨_, rfl⟩
    rw [← hRa] at hav
    have hRpa : 0 < Ra ∧ Ra ≤ 8 * bs.length := by omega
    have HRa := Lib.hid hRa
    clear hRa
    go_wp2_with fail
    refine hav.mono ?_
    rintro e wa ⟨rfl, hs2, ho2, hb2⟩
    have HOa := Lib.hid (own_onl HOr.out ho2 HSr.out (by decide))
    have HSa := Lib.hid hs2
    have HBa := Lib.hid hb2
    have HZa : Hid (w.heap.size ≤ wa.heap.size) := Lib.hid (Nat.le_trans HZr.out ho2.size)
    have HFa := Lib.hid (HFr.out.read ho2)
    clear hs2 ho2 hb2 HOr HSr HBr HZr HFr hav
    have hRb : 16 < Ra := by have := HRa.out; omega
    clear HRa
    -- bits.Available() at position P: a old letter, b new letter; R = how many
    have hav := avail_src HK.out (P) wa HBa.out (by have := HZa.out; omega) HSa.out (by omega)
    obtain ⟨Rb, hRb⟩ : ∃ x, x = 8 * bs.length - (P) := ⟨_, rfl⟩
    rw [← hRb] at hav
    have hRpb : 0 < Rb ∧ Rb ≤ 8 * bs.length := by omega
    have HRb := Lib.hid hRb
    clear hRb
    go_wp2_with fail
    refine hav.mono ?_
    rintro e wb ⟨rfl, hs2, ho2, hb2⟩
    have HOb := Lib.hid (own_onl HOa.out ho2 HSa.out (by decide))
    have HSb := Lib.hid hs2
    have HBb := Lib.hid hb2
    have HZb : Hid (w.heap.size ≤ wb.heap.size) := Lib.hid (Nat.le_trans HZa.out ho2.size)
    have HFb := Lib.hid (HFa.out.read ho2)
    clear hs2 ho2 hb2 HOa HSa HBa HZa HFa hav
    have hRc : 16 < Rb := by have := HRb.out; omega
    clear HRb
    go_wp2_with fail
    go_loopw [1, 5] (fun ov iv wq => ∃ (i n2 : Nat), i ≤ 4 ∧ m + i ≤ t.length ∧ iv = .int .i64 (i : Int) ∧ n2 ≤ n + (m + i) ∧ Hid (wq.ownsRow base 5 1 ov n2 (bl (res ++ t.take (m + i)))) ∧ Hid (n2 = (res ++ t.take (m + i)).length) ∧ Hid (SrcAt wq p sv (8 * q + 6 * (m + i))) ∧ Hid (Below B w0 wq) ∧ Hid (w.heap.size ≤ wq.heap.size) ∧ Hid (Fr w p (.slice vA vn vcp) wq ov)) (fun _ iv _ => 4 - (intOf iv).toNat)
    case atStart => exact ⟨0, n', by decide, hm, rfl, hnm, HOb, HNr, Lib.hid (by rw [Nat.add_zero, ← HPP.out]; exact HSb.out), HBb, HZb, HFb⟩
    case round =>
      rename World => wq
      clear HOb HNr HSb HBb HZb HFb hnm
      obtain ⟨i, n2, hi4, hmi, rfl, hnm, HOq, HNq, HSq, HBq, HZq, HFq⟩ := hrel
      by_cases hlt : i < 4
      · obtain ⟨M, hM⟩ : ∃ M, M = m + i := ⟨_, rfl⟩
        have hM1 : m + (i + 1) = M + 1 := by omega
        rw [← hM] at hmi hnm HOq HNq HSq
        obtain ⟨P, hP⟩ : ∃ P, P = 8 * q + 6 * M := ⟨_, rfl⟩
        have hPb : P + 30 ≤ 8 * bs.length := by omega
        rw [← hP] at HSq
        have HPP := Lib.hid hP
        have HM1 := Lib.hid hM1
        have HMM := Lib.hid hM
        clear hP hM hM1
        by_cases hend : M < t.length
        · obtain ⟨c, hc⟩ : ∃ c, c = t[M] := ⟨_, rfl⟩
          have hcc : t[M]? = some c := by rw [List.getElem?_eq_getElem hend, hc]
          obtain ⟨h32, h94, hrb⟩ := HJ.out M c hcc
          rw [← HPP.out] at hrb
          obtain ⟨cn, hcn⟩ : ∃ n, n = c.toNat := ⟨_, rfl⟩
          rw [← hcn] at h32 h94 hrb
          obtain ⟨hz31, hhi, hlo⟩ := edi_bits cn (by omega) h32
          obtain ⟨z, hz⟩ : ∃ z, z = cn % 64 := ⟨_, rfl⟩
          rw [← hz] at hz31 hhi hlo hrb
          have hz64 : z < 64 := by omega
          have HTK : Hid (t.take (M + 1) = t.take M ++ [c]) := Lib.hid (by rw [List.take_succ_eq_append_getElem hend, hc])
          have HDG : Hid (bl [c] = [.int .u8 (cn : Int)]) := Lib.hid (by simp [bl, hcn])
          have hand : bits .and .i64 (z : Int) 32 = ((z &&& 32 : Nat) : Int) := i64_and z 32 (by omega) (by decide)
          have hor : bits .or .i64 (z : Int) 64 = ((z ||| 64 : Nat) : Int) := i64_or z 64 (by omega) (by decide)
          have hn4 : n2 ≤ 100000000000 := by omega
          have hrd : Calls Tryd.prog 44 #[.pointer (some ⟨p, 0, none⟩), .int .i64 6] wq fun e w' => e = .returned (.tuple #[.int .i64 (z : Int), .nilIface]) ∧ SrcAt w' p sv (P + 6) ∧ Onl p wq w' ∧ Below B w0 w' := by
            have h9 := rdBits_yes HK.out P 6 wq HBq.out (by have := HZq.out; omega) HSq.out (by decide) (by decide) (by omega)
            rw [hrb] at h9
            exact h9
          have HPN : Hid (P + 6 = 8 * q + 6 * (M + 1)) := Lib.hid (by rw [HPP.out]; omega)
          have hcn95 : cn < 256 := by omega
          clear hc hcc hrb hcn hz h32
          go_wp2_with fail
          refine hrd.mono ?_
          rintro e wd ⟨rfl, hs2, ho2, hb2⟩
          -- behind a reading: 6 bits, q = old letter, d = new letter, from the rintro's facts hs2 ho2 hb2 in world wd
          have HOd := Lib.hid (own_onl HOq.out ho2 HSq.out (by decide))
          have HSd := Lib.hid hs2
          have HBd := Lib.hid hb2
          have HZd : Hid (w.heap.size ≤ wd.heap.size) := Lib.hid (Nat.le_trans HZq.out ho2.size)
          have HFd := Lib.hid (HFq.out.read ho2)
          clear hs2 ho2 hb2 HOq HSq HBq HZq HFq hrd
          by_cases h64 : 64 ≤ cn
          · rw [(hhi h64).1] at hand
            rw [(hhi h64).2] at hor
            have hand : bits .and .i64 (z : Int) 32 = 0 := hand
            clear hhi hlo h64
            -- one sign is appended: 45 = slot, cn = its number, c = the sign, res ++ t.take M = the list so far, n2 = how many, P + 6 = the position, d = old names' letter, e = new names' letter (HDG tells the sign)
            go_wp2_with (with_reducible refine stop_at (o := ⟨some 45, _, _, _, _, _⟩) ?_)
            refine Lib.hid ?_
            have hob := own_up HOd.out (bal (brf wd) (.cells #[.int .u8 (cn : Int)] 5))
            refine list_app2 rfl _ _ _ rfl base 5 i0 _ 1 Tryd.underlying27 hi0 hz0 hz1 hz2 rfl _ (n2) _ rfl hob _ _ [.int .u8 (cn : Int)] rfl (Rd.one rfl _ _) (fun u hu => by simp at hu; subst hu; rfl) (by simp only [List.length_singleton]; unfold maxLen; omega) (by simp only [List.length_singleton]; omega) (by have := HZd.out; simp; omega) ?_
            intro ve we ho1 hg1 hl1
            have HFe : Hid (Fr w p _ we ve) := Lib.hid ((HFd.out.below (bal (brf wd) (.cells #[.int .u8 (cn : Int)] 5))).app hg1 hl1)
            have HOe : Hid (we.ownsRow base 5 1 ve (n2 + 1) (bl (res ++ t.take M ++ [c]))) := Lib.hid (by rw [bl_app, HDG.out]; exact ho1)
            have HSe : Hid (SrcAt we p sv (P + 6)) := Lib.hid (Blk.grown (Blk.alloc HSd.out _) hg1 (own_ne hob (Blk.alloc HSd.out _) (by decide)))
            have HBe : Hid (Below B w0 we) := Lib.hid (below_grown (HBd.out.alloc (by have := HZd.out; omega) _) hg1 (own_lessP hob hBb) (by have := HZd.out; simp; omega))
            have HZe : Hid (w.heap.size ≤ we.heap.size) := Lib.hid (Nat.le_trans HZd.out (Nat.le_trans (by simp) hg1.size))
            clear ho1 hg1 hl1 hob HOd HSd HBd HZd HFd HDG
            have HO9 : Hid (we.ownsRow base 5 1 ve (n2 + 1) (bl (res ++ t.take (m + (i + 1))))) := Lib.hid (by rw [HM1.out, HTK.out, ← List.append_assoc]; exact HOe.out)
            have HN9 : Hid (n2 + 1 = (res ++ t.take (m + (i + 1))).length) := Lib.hid (by rw [HM1.out, HTK.out, ← List.append_assoc, List.length_append, ← HNq.out]; rfl)
            have HS9 : Hid (SrcAt we p sv (8 * q + 6 * (m + (i + 1)))) := Lib.hid (by rw [HM1.out, ← HPN.out]; exact HSe.out)
            have hm9 : m + (i + 1) ≤ t.length := by rw [HM1.out]; exact hend
            have hn9 : n2 + 1 ≤ n + (m + (i + 1)) := by rw [HM1.out]; omega
            clear HOe HNq HSe
            go_wp2_with fail
            go_roundw
            case rel => exact ⟨i + 1, n2 + 1, hlt, hm9, by go_num, hn9, HO9, HN9, HS9, HBe, HZe, HFe⟩
            case measure => simp [intOf]; omega
          · rw [(hlo (by omega)).1] at hand
            have hzc := (hlo (by omega)).2
            have hand : bits .and .i64 (z : Int) 32 = 32 := hand
            clear hhi hlo h64 hor
            subst hzc
            -- one sign is appended: 45 = slot, z = its number, c = the sign, res ++ t.take M = the list so far, n2 = how many, P + 6 = the position, d = old names' letter, e = new names' letter (HDG tells the sign)
            go_wp2_with (with_reducible refine stop_at (o := ⟨some 45, _, _, _, _, _⟩) ?_)
            refine Lib.hid ?_
            have hob := own_up HOd.out (bal (brf wd) (.cells #[.int .u8 (z : Int)] 5))
            refine list_app2 rfl _ _ _ rfl base 5 i0 _ 1 Tryd.underlying27 hi0 hz0 hz1 hz2 rfl _ (n2) _ rfl hob _ _ [.int .u8 (z : Int)] rfl (Rd.one rfl _ _) (fun u hu => by simp at hu; subst hu; rfl) (by simp only [List.length_singleton]; unfold maxLen; omega) (by simp only [List.length_singleton]; omega) (by have := HZd.out; simp; omega) ?_
            intro ve we ho1 hg1 hl1
            have HFe : Hid (Fr w p _ we ve) := Lib.hid ((HFd.out.below (bal (brf wd) (.cells #[.int .u8 (z : Int)] 5))).app hg1 hl1)
            have HOe : Hid (we.ownsRow base 5 1 ve (n2 + 1) (bl (res ++ t.take M ++ [c]))) := Lib.hid (by rw [bl_app, HDG.out]; exact ho1)
            have HSe : Hid (SrcAt we p sv (P + 6)) := Lib.hid (Blk.grown (Blk.alloc HSd.out _) hg1 (own_ne hob (Blk.alloc HSd.out _) (by decide)))
            have HBe : Hid (Below B w0 we) := Lib.hid (below_grown (HBd.out.alloc (by have := HZd.out; omega) _) hg1 (own_lessP hob hBb) (by have := HZd.out; simp; omega))
            have HZe : Hid (w.heap.size ≤ we.heap.size) := Lib.hid (Nat.le_trans HZd.out (Nat.le_trans (by simp) hg1.size))
            clear ho1 hg1 hl1 hob HOd HSd HBd HZd HFd HDG
            have HO9 : Hid (we.ownsRow base 5 1 ve (n2 + 1) (bl (res ++ t.take (m + (i + 1))))) := Lib.hid (by rw [HM1.out, HTK.out, ← List.append_assoc]; exact HOe.out)
            have HN9 : Hid (n2 + 1 = (res ++ t.take (m + (i + 1))).length) := Lib.hid (by rw [HM1.out, HTK.out, ← List.append_assoc, List.length_append, ← HNq.out]; rfl)
            have HS9 : Hid (SrcAt we p sv (8 * q + 6 * (m + (i + 1)))) := Lib.hid (by rw [HM1.out, ← HPN.out]; exact HSe.out)
            have hm9 : m + (i + 1) ≤ t.length := by rw [HM1.out]; exact hend
            have hn9 : n2 + 1 ≤ n + (m + (i + 1)) := by rw [HM1.out]; omega
            clear HOe HNq HSe
            go_wp2_with fail
            go_roundw
            case rel => exact ⟨i + 1, n2 + 1, hlt, hm9, by go_num, hn9, HO9, HN9, HS9, HBe, HZe, HFe⟩
            case measure => simp [intOf]; omega
        · have hMt : M = t.length := by omega
          have hrb : rb bs P 6 = 31 := by rw [HPP.out, hMt]; exact HE.out
          have hrd : Calls Tryd.prog 44 #[.pointer (some ⟨p, 0, none⟩), .int .i64 6] wq fun e w' => e = .returned (.tuple #[.int .i64 31, .nilIface]) ∧ SrcAt w' p sv (P + 6) ∧ Onl p wq w' ∧ Below B w0 w' := by
            have h9 := rdBits_yes HK.out P 6 wq HBq.out (by have := HZq.out; omega) HSq.out (by decide) (by decide) (by omega)
            rw [hrb] at h9
            exact h9
          have HTA : Hid (t.take M = t) := Lib.hid (by rw [hMt]; exact List.take_length)
          have HKE : Hid (8 * (q + k) = (P + 6 + 7) / 8 * 8) := Lib.hid (by have := HPP.out; have := HKK.out; omega)
          have hn4 : n2 ≤ 100000000000 := by omega
          clear hrb hMt
          go_wp2_with fail
          refine hrd.mono ?_
          rintro e wd ⟨rfl, hs2, ho2, hb2⟩
          -- behind a reading: 6 bits, q = old letter, d = new letter, from the rintro's facts hs2 ho2 hb2 in world wd
          have HOd := Lib.hid (own_onl HOq.out ho2 HSq.out (by decide))
          have HSd := Lib.hid hs2
          have HBd := Lib.hid hb2
          have HZd : Hid (w.heap.size ≤ wd.heap.size) := Lib.hid (Nat.le_trans HZq.out ho2.size)
          have HFd := Lib.hid (HFq.out.read ho2)
          clear hs2 ho2 hb2 HOq HSq HBq HZq HFq hrd
          have hof := getOff_any wd HSd.out
          obtain ⟨o, ho⟩ : ∃ o, o = (P + 6) % 8 := ⟨_, rfl⟩
          rw [← ho] at hof
          have ho8 : o < 8 := by omega
          obtain ⟨bl8, hbl⟩ : ∃ b, b = 8 - o := ⟨_, rfl⟩
          have e1 : (8 : Int) - (o : Int) = (bl8 : Int) := by omega
          have hbl1 : 1 ≤ bl8 ∧ bl8 ≤ 8 := by omega
          have HOO := Lib.hid (And.intro ho hbl)
          clear ho hbl
          go_wp2_with fail
          refine hof.mono ?_
          rintro e wd ⟨rfl, rfl⟩
          clear hof
          by_cases h8 : bl8 = 8
          · have HOF : Hid (SegQ w0 w B p base sv (.slice vA vn vcp) (res ++ t) (q + k) wd _) := Lib.hid ⟨HBd.out, HZd.out, by rw [HKE.out, show (P + 6 + 7) / 8 * 8 = P + 6 by have := HOO.out; omega]; exact HSd.out, own_lenEq (by rw [← HTA.out]; exact HOd.out) (by rw [← HTA.out]; exact HNq.out), HFd.out⟩
            clear HOd HSd HBd HZd HFd
            have h8i : (bl8 : Int) = 8 := by omega
            clear h8
            go_wp2_with fail
            go_ret
            exact ⟨_, rfl, HOF.out⟩
          · have hrd : Calls Tryd.prog 44 #[.pointer (some ⟨p, 0, none⟩), .int .i64 (bl8 : Int)] wd fun e w' => (∃ x : Int, e = .returned (.tuple #[.int .i64 x, .nilIface])) ∧ SrcAt w' p sv (P + 6 + bl8) ∧ Onl p wd w' ∧ Below B w0 w' := by
              refine (rdBits_yes HK.out (P + 6) bl8 wd HBd.out (by have := HZd.out; omega) HSd.out hbl1.1 (by omega) (by omega)).mono ?_
              rintro e w' ⟨rfl, h1, h2, h3⟩
              exact ⟨⟨_, rfl⟩, h1, h2, h3⟩
            have h8i : ¬ (bl8 : Int) = 8 := by omega
            go_wp2_with fail
            refine hrd.mono ?_
            rintro e we ⟨⟨x, rfl⟩, hs2, ho2, hb2⟩
            -- behind a reading: bl8 bits, d = old letter, e = new letter, from the rintro's facts hs2 ho2 hb2 in world we
            have HOe := Lib.hid (own_onl HOd.out ho2 HSd.out (by decide))
            have HSe := Lib.hid hs2
            have HBe := Lib.hid hb2
            have HZe : Hid (w.heap.size ≤ we.heap.size) := Lib.hid (Nat.le_trans HZd.out ho2.size)
            have HFe := Lib.hid (HFd.out.read ho2)
            clear hs2 ho2 hb2 HOd HSd HBd HZd HFd hrd
            have HOF : Hid (SegQ w0 w B p base sv (.slice vA vn vcp) (res ++ t) (q + k) we _) := Lib.hid ⟨HBe.out, HZe.out, by rw [HKE.out, show (P + 6 + 7) / 8 * 8 = P + 6 + bl8 by have := HOO.out; omega]; exact HSe.out, own_lenEq (by rw [← HTA.out]; exact HOe.out) (by rw [← HTA.out]; exact HNq.out), HFe.out⟩
            clear HOe HSe HBe HZe HFe
            go_wp2_with fail
            go_ret
            exact ⟨_, rfl, HOF.out⟩
      · have hi : i = 4 := by omega
        subst hi
        go_wp2_with fail
        go_roundw
        case rel => exact ⟨m + 4, n2, hmi, hnm, HOq, HNq, HSq, HBq, HZq, HFq⟩
        case measure => rw [posOf_at HSq.out, HPS.out]; omega
end Go.Proofs.YtjpcajecmfhppaaDoor
