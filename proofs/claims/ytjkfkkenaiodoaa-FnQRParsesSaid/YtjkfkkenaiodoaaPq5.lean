/-
  WALK: spec.QRRead.
-/
import Derived.Test.YtjkfkkenaiodoaaPq4
namespace Go.Proofs.Ytjkfkkenaiodoaa
open Go.RowKit

def lenV : Value → Nat
  | .slice _ n _ => n
  | _ => 0
/-- What QRRead ends with. -/
def ReadQ (R : Nat × List Seg) (e : Ending) (w' : World) : Prop :=
  (R.1 = 0 ∧ ∃ s, e = .returned (.tuple #[s, .bool true, .bool true]) ∧ RdG w' s R.2) ∨ (R.1 = 1 ∧ e = .returned (.tuple #[.slice none 0 0, .bool false, .bool true])) ∨ (R.1 = 2 ∧ e = .returned (.tuple #[.slice none 0 0, .bool false, .bool false]))
theorem segsF_step (bs : List Nat) (ver f' pos md : Nat) (acc : List Seg) (h4 : pos + 4 ≤ 8 * bs.length) (hmd : md = rb bs pos 4) :
    segsF bs ver (f' + 1) pos acc = if md = 0 then (0, acc) else if ¬ (md = 1 ∨ md = 2 ∨ md = 4) then (2, []) else if 8 * bs.length < pos + 4 + cntOf md ver then (1, []) else
      match segS bs md (rb bs (pos + 4) (cntOf md ver)) (rb bs (pos + 4) (cntOf md ver)) (pos + 4 + cntOf md ver) [] with
      | none => (1, [])
      | some tp => segsF bs ver f' tp.2 (acc ++ [(md, tp.1)]) := by
  subst hmd
  rw [segsF, if_neg (by omega)]
  rfl
set_option maxRecDepth 100000 in
set_option maxHeartbeats 4000000 in
theorem qrRead_any (v : Value) (bs : List Nat) (ver : Nat) (R : Nat × List Seg) (w : World) (hv : Rd w w.heap.size v (wv8 bs)) (hb : ∀ x ∈ bs, x < 256) (hl : bs.length ≤ 2147483647) (hR : segsF bs ver (8 * bs.length + 1) 0 [] = R) :
    Calls Try.prog 6 #[v, .int .i64 ver] w fun e w' => Below w.heap.size w w' ∧ ReadQ R e w' := by
  obtain ⟨i0, hi0, hz0, hz1, hz2⟩ := sg_parts
  have hbo := qrBitsOf_any v bs w hv hb hl
  obtain ⟨A0, c0, rfl, -, -⟩ := hv.form
  have HR := Lib.hid hR
  clear hv hR
  go_enter Try.func6, Try.ntmps6
  go_wp2_with fail
  refine hbo.mono ?_
  rintro e w1 ⟨bvv, rfl, hob, hb1⟩
  have hrd := (RdT.of_own hob).rd
  obtain ⟨A, cap, rfl, k1, k2, k3⟩ := hrd
  have hbl : (bv (bitsK bs bs.length)).length = 8 * bs.length := by rw [bv_len, bitsK_len]
  rw [hbl] at k1 k3 ⊢
  obtain ⟨b, off, hA, hBL⟩ : ∃ b off, (0 < 8 * bs.length → A = some ⟨b, off, none⟩) ∧ BitsL w1 b off bs := by
    rcases Nat.eq_zero_or_pos (8 * bs.length) with h0 | h0
    · exact ⟨0, 0, fun h => by omega, fun j hj => by omega⟩
    · obtain ⟨b, off, hA, _, hc⟩ := k3 h0
      exact ⟨b, off, fun _ => hA, fun j hj => hc j _ (bitsK_at bs bs.length j hj)⟩
  have HB1 := Lib.hid hb1
  have HBL := Lib.hid hBL
  have HP0 : Hid (8 * bs.length + 0 = 8 * bs.length ∧ 8 * bs.length < 0 + (8 * bs.length + 1) ∧ (0 < 8 * bs.length → A = some ⟨b, off + 0, none⟩)) := Lib.hid ⟨rfl, by omega, hA⟩
  unfold maxLen at k2
  have hk2 : cap ≤ 9223372036854775807 := by omega
  clear hbo hob hb1 hBL hA k3 hbl
  obtain ⟨wB, hwB⟩ : ∃ x, x = w.heap.size := ⟨_, rfl⟩
  have HW := Lib.hid (And.intro hwB HB1.out)
  clear hwB HB1
  obtain ⟨w0, rfl⟩ : ∃ x : World, x = w := ⟨_, rfl⟩
  have hW0 := HW.out.2
  obtain ⟨w, hww⟩ : ∃ x : World, x = w1 := ⟨_, rfl⟩
  subst hww
  go_wp2_with fail
  go_loopw [7, 8] (fun lv ov wr => ∃ (f pos m cp k : Nat) (A : Option Addr) (acc : List Seg) (cells : List Value), lv = .slice A m cp ∧ m ≤ 8 * bs.length ∧ m ≤ cp ∧ cp ≤ 9223372036854775807 ∧ k ≤ pos ∧ Hid (m + pos = 8 * bs.length ∧ 8 * bs.length < pos + f ∧ (0 < m → A = some ⟨b, off + pos, none⟩)) ∧
    Hid (wr.ownsRow w.heap.size 46 2 ov k cells ∧ SgL wr cells acc ∧ k = acc.length) ∧ Hid (segsF bs ver f pos acc = R) ∧ Hid (Below w.heap.size w wr)) (fun lv _ _ => lenV lv)
  case atStart => exact ⟨8 * bs.length + 1, 0, 8 * bs.length, cap, 0, A, [], [], rfl, Nat.le_refl _, k1, hk2, Nat.le_refl _, HP0, Lib.hid ⟨⟨rfl, .inl ⟨rfl, rfl⟩⟩, SgL.nil_ _, rfl⟩, HR, Lib.hid (brf w)⟩
  case round =>
    clear HP0 HR k1 hk2 hW0
    obtain ⟨f, pos, m, cp, k, A, acc, cells, rfl, hm, hmcp, hcp, hkp, HP, HO, HSG, HB⟩ := hrel
    rename World => wr
    by_cases h4 : 4 ≤ m
    · obtain ⟨p1, p2, p3⟩ := HP.out
      have hA := p3 (by omega)
      subst hA
      obtain ⟨f', hf'⟩ : ∃ f', f = f' + 1 := ⟨f - 1, by omega⟩
      subst hf'
      have hm4 : (4 : Int) ≤ (m : Int) := by omega
      have htk : Calls Try.prog 12 #[.slice (some ⟨b, off + pos, none⟩) m cp, .int .i64 4] wr fun e w' => ∃ o', e = .returned (.tuple #[.int .i64 (rb bs pos 4 : Nat), .slice (some ⟨b, o', none⟩) (m - 4) (cp - 4), .bool true]) ∧ (4 < m → o' = off + (pos + 4)) ∧ Below wr.heap.size wr w' :=
        qrTake_yes bs b off m cp pos 4 wr (fun j hj => by rw [below_cells HB.out b _ (by have := HBL.out j hj; exact World.block_lt_of_cell? w _ this)]; exact HBL.out j hj) p1 h4 (by decide) hmcp hcp
      have HF : Hid (8 * bs.length < pos + (f' + 1)) := Lib.hid p2
      obtain ⟨ofp, hofp⟩ : ∃ x, x = off + pos := ⟨_, rfl⟩
      rw [← hofp] at htk ⊢
      have hz := rb_lt bs pos 4
      obtain ⟨md, hmd⟩ : ∃ x, x = rb bs pos 4 := ⟨_, rfl⟩
      have hst := segsF_step bs ver f' pos md acc (by omega) hmd
      rw [← hmd] at htk hz
      have H1 := Lib.hid p1
      clear hofp p3 hmd HP p2
      by_cases h0 : md = 0
      · have hr : R = (0, acc) := by rw [← HSG.out, hst, if_pos h0]
        have HRN := Lib.hid hr
        subst h0
        clear hr hst HSG
        go_wp2_with fail
        refine htk.mono ?_
        rintro e w2 ⟨o2, rfl, ho2, hb2⟩
        have HB2 := Lib.hid (bup HB.out hb2)
        have hrg := (HO.out.2.1.rd HO.out.2.2 HO.out.1).up hb2
        have HRG := Lib.hid hrg
        clear htk hb2 hrg HO HB
        go_wp2_with fail
        go_ret3
        exact ⟨bup HW.out.2 HB2.out, .inl ⟨by rw [HRN.out], _, rfl, by rw [HRN.out]; exact HRG.out⟩⟩
      · by_cases h1 : md = 1 ∨ md = 2 ∨ md = 4
        · rcases h1 with rfl | rfl | rfl
          · -- 1 = the mode, qrSaid_1 = the walk of its segment
            have hst2 := hst
            rw [if_neg (by decide), if_neg (by decide)] at hst2
            have hcl := cntOf_le 1 ver (by decide)
            have hct : ∀ w', Calls Try.prog 13 #[.int .i64 1, .int .i64 ver] w' fun e w'' => e = .returned (.tuple #[.int .i64 (cntOf 1 ver : Nat), .bool true]) ∧ Below w'.heap.size w' w'' := fun w' => specCount_yes 1 ver w' rfl
            obtain ⟨cb, hcb⟩ : ∃ x, x = cntOf 1 ver := ⟨_, rfl⟩
            rw [← hcb] at hcl hst2 hct
            clear hcb hst
            go_wp2_with fail
            refine htk.mono ?_
            rintro e w2 ⟨o2, rfl, ho2, hb2⟩
            have HB2 := Lib.hid (bup HB.out hb2)
            have HO2 := Lib.hid (own_up HO.out.1 hb2)
            have HS2 := Lib.hid (HO.out.2.1.up hb2)
            have HKL := Lib.hid HO.out.2.2
            clear htk hb2 HB HO
            go_wp2_with fail
            refine (hct _).mono ?_
            rintro e w3 ⟨rfl, hb3⟩
            have HB3 := Lib.hid (bup HB2.out hb3)
            have HO3 := Lib.hid (own_up HO2.out hb3)
            have HS3 := Lib.hid (HS2.out.up hb3)
            clear hct hb3 HB2 HO2 HS2
            have HBL3 := Lib.hid (fun (w' : World) (hb : Below w.heap.size w w') (j : Nat) (hj : j < 8 * bs.length) => show w'.cell? ⟨b, off + j, none⟩ = some (.bool (bitB bs j == 1)) from by rw [below_cells hb b _ (by have := HBL.out j hj; exact World.block_lt_of_cell? w _ this)]; exact HBL.out j hj)
            by_cases hcm : cb ≤ m - 4
            · rw [if_neg (by omega)] at hst2
              have ho3 : o2 = off + (pos + 4) := ho2 (by omega)
              have htk2 := qrTake_yes bs b off (m - 4) (cp - 4) (pos + 4) cb w3 (HBL3.out w3 HB3.out) (by omega) hcm (by omega) (by omega) (by omega)
              rw [← ho3] at htk2
              have hzl := rb_lt bs (pos + 4) cb
              have hz16 : 2 ^ cb ≤ 2 ^ 16 := Nat.pow_le_pow_right (by decide) hcl.2
              obtain ⟨z, hzv⟩ : ∃ z, z = rb bs (pos + 4) cb := ⟨_, rfl⟩
              rw [← hzv] at htk2 hzl hst2
              have hz : z ≤ 65535 := by omega
              obtain ⟨m4, hm4⟩ : ∃ x, x = m - 4 := ⟨_, rfl⟩
              obtain ⟨c4, hc4⟩ : ∃ x, x = cp - 4 := ⟨_, rfl⟩
              rw [← hm4, ← hc4] at htk2
              rw [← hm4, ← hc4]
              have q1 : m4 + (pos + 4) = 8 * bs.length := by omega
              have q2 : cb ≤ m4 := by omega
              have q3 : m4 ≤ c4 := by omega
              have q4 : c4 ≤ 9223372036854775807 := by omega
              have q5 : m4 + 4 = m := by omega
              have Q1 := Lib.hid q1
              have Q5 := Lib.hid q5
              clear hzl hz16 hzv ho3 ho2 hm4 hc4 q1 q5
              go_wp2_with fail
              refine htk2.mono ?_
              rintro e w4 ⟨o3, rfl, ho3, hb4⟩
              have HB4 := Lib.hid (bup HB3.out hb4)
              have HO4 := Lib.hid (own_up HO3.out hb4)
              have HS4 := Lib.hid (HS3.out.up hb4)
              obtain ⟨R2, hR2⟩ : ∃ x, x = segS bs 1 z z (pos + 4 + cb) [] := ⟨_, rfl⟩
              rw [← hR2] at hst2
              have hlf : Left bs off o3 (m4 - cb) (c4 - cb) (pos + 4 + cb) := ⟨by have := Q1.out; omega, by omega, by omega, fun hp => ho3 (by omega)⟩
              have hsd : Calls Try.prog 14 #[.slice (some ⟨b, o3, none⟩) (m4 - cb) (c4 - cb), .int .i64 1, .int .i64 z] w4 fun e w' => Below w4.heap.size w4 w' ∧ SaidQ bs b off R2 e w' :=
                qrSaid_1 bs b off o3 (m4 - cb) (c4 - cb) (pos + 4 + cb) z R2 w4 (HBL3.out w4 HB4.out) hlf hl hz hR2.symm
              have HR2 := Lib.hid hR2
              clear htk2 hb4 HB3 HO3 HS3 ho3 hlf hR2
              go_wp2_with fail
              refine hsd.mono ?_
              rintro e w5 ⟨hb5, hq⟩
              have HB5 := Lib.hid (bup HB4.out hb5)
              have HO5 := Lib.hid (own_up HO4.out hb5)
              have HS5 := Lib.hid (HS4.out.up hb5)
              clear hsd hb5 HB4 HO4 HS4
              rcases hq with ⟨hn, rfl⟩ | ⟨t, p2, tv, o5, n5, c5, hn, rfl, htv, hl5⟩
              · rw [hn] at hst2
                have hr : R.1 = 1 := by rw [← HSG.out, hst2]
                have HRN := Lib.hid hr
                clear hr hst2 HSG hn
                go_wp2_with fail
                go_ret3
                exact ⟨bup HW.out.2 HB5.out, .inr (.inl ⟨HRN.out, rfl⟩)⟩
              · obtain ⟨tA, tc, htf, -, -⟩ := htv.rd.form
                obtain ⟨tn, htn⟩ : ∃ x, x = (bl t).length := ⟨_, rfl⟩
                rw [← htn] at htf
                subst htf
                clear htn
                rw [hn] at hst2
                have hge := segS_ge bs 1 z z _ [] t p2 (by rw [← HR2.out]; exact hn)
                have HSG2 : Hid (segsF bs ver f' p2 (acc ++ [(1, t)]) = R) := Lib.hid (by rw [← HSG.out, hst2])
                have HTV := Lib.hid htv
                have n5a := hl5.sum
                have n5b := hl5.le
                have n5c := hl5.max
                have n5d : n5 ≤ 8 * bs.length := by omega
                have n5e : n5 < m := by have := Q5.out; have := Q1.out; omega
                have n5f : k + 1 ≤ p2 := by omega
                have HP : Hid (n5 + p2 = 8 * bs.length ∧ 8 * bs.length < p2 + f' ∧ (0 < n5 → some (⟨b, o5, none⟩ : Addr) = some ⟨b, off + p2, none⟩)) := Lib.hid ⟨n5a, by have := HF.out; omega, fun hp => by rw [hl5.at_ hp]⟩
                clear hn hst2 HSG htv hl5 hge n5a
                go_wp2_with (with_reducible refine stop_at (o := ⟨some 72, _, _, _, _, _⟩) ?_)
                refine Lib.hid ?_
                refine list_app_2c rfl _ _ _ rfl w.heap.size 46 i0 _ 32 Try.underlying24 hi0 hz0 hz1 hz2 rfl _ k cells rfl (own_up HO5.out (bal (brf w5) _)) _ _ [.int .i64 1, .slice tA tn tc] rfl rfl (fun j u hu => ?_) (fun u hu => ?_) (by unfold maxLen; omega) (by omega) (by have := HB5.out.size; simp; omega) ?_
                · have hj : j = 0 ∨ j = 1 := by have := (List.getElem?_eq_some_iff.1 hu).1; simp at this; omega
                  rw [addr_add, Nat.zero_add, (Blk.fresh w5 46 #[.int .i64 1, .slice tA tn tc]).cell]
                  rcases hj with rfl | rfl <;> simpa using hu
                · simp only [List.mem_cons, List.not_mem_nil, or_false] at hu
                  rcases hu with rfl | rfl <;> rfl
                intro v1 w6 ho1 hg1
                have HO6 : Hid (w6.ownsRow w.heap.size 46 2 v1 (k + 1) (cells ++ [.int .i64 1, .slice tA tn tc]) ∧ SgL w6 (cells ++ [.int .i64 1, .slice tA tn tc]) (acc ++ [(1, t)]) ∧ k + 1 = (acc ++ [(1, t)]).length) := Lib.hid ⟨ho1, by
                  have h8 := bal (brf w5) (.cells #[.int .i64 1, .slice tA tn tc] 46)
                  have h9 := ((HS5.out.up h8).app (s := (1, t)) (HTV.out.up h8))
                  exact h9.grown (own_up HO5.out (bal (brf w5) _)) (by decide) hg1, by rw [List.length_append, HKL.out]; rfl⟩
                have HB6 : Hid (Below w.heap.size w w6) := Lib.hid (below_grown (bal HB5.out _) hg1 (own_up HO5.out (bal (brf w5) _)) (by have := HB5.out.size; simp; omega))
                clear ho1 hg1 HO5 HS5 HB5
                go_wp2_with fail
                go_roundw
                case rel => exact ⟨f', p2, n5, c5, k + 1, _, _, _, rfl, n5d, n5b, n5c, n5f, HP, HO6, HSG2, HB6⟩
                case measure => simp [lenV]; omega
            · rw [if_pos (by omega)] at hst2
              have hr : R.1 = 1 := by rw [← HSG.out, hst2]
              have HRN := Lib.hid hr
              have htk2 := qrTake_no (some ⟨b, o2, none⟩) (m - 4) (cp - 4) cb w3 (by omega) (by omega) (by omega) (by omega)
              clear hr hst2 HSG ho2
              go_wp2_with fail
              refine htk2.mono ?_
              rintro e w3 ⟨rfl, rfl⟩
              clear htk2
              go_wp2_with fail
              go_ret3
              exact ⟨bup HW.out.2 HB3.out, .inr (.inl ⟨HRN.out, rfl⟩)⟩
          · -- 2 = the mode, qrSaid_2 = the walk of its segment
            have hst2 := hst
            rw [if_neg (by decide), if_neg (by decide)] at hst2
            have hcl := cntOf_le 2 ver (by decide)
            have hct : ∀ w', Calls Try.prog 13 #[.int .i64 2, .int .i64 ver] w' fun e w'' => e = .returned (.tuple #[.int .i64 (cntOf 2 ver : Nat), .bool true]) ∧ Below w'.heap.size w' w'' := fun w' => specCount_yes 2 ver w' rfl
            obtain ⟨cb, hcb⟩ : ∃ x, x = cntOf 2 ver := ⟨_, rfl⟩
            rw [← hcb] at hcl hst2 hct
            clear hcb hst
            go_wp2_with fail
            refine htk.mono ?_
            rintro e w2 ⟨o2, rfl, ho2, hb2⟩
            have HB2 := Lib.hid (bup HB.out hb2)
            have HO2 := Lib.hid (own_up HO.out.1 hb2)
            have HS2 := Lib.hid (HO.out.2.1.up hb2)
            have HKL := Lib.hid HO.out.2.2
            clear htk hb2 HB HO
            go_wp2_with fail
            refine (hct _).mono ?_
            rintro e w3 ⟨rfl, hb3⟩
            have HB3 := Lib.hid (bup HB2.out hb3)
            have HO3 := Lib.hid (own_up HO2.out hb3)
            have HS3 := Lib.hid (HS2.out.up hb3)
            clear hct hb3 HB2 HO2 HS2
            have HBL3 := Lib.hid (fun (w' : World) (hb : Below w.heap.size w w') (j : Nat) (hj : j < 8 * bs.length) => show w'.cell? ⟨b, off + j, none⟩ = some (.bool (bitB bs j == 1)) from by rw [below_cells hb b _ (by have := HBL.out j hj; exact World.block_lt_of_cell? w _ this)]; exact HBL.out j hj)
            by_cases hcm : cb ≤ m - 4
            · rw [if_neg (by omega)] at hst2
              have ho3 : o2 = off + (pos + 4) := ho2 (by omega)
              have htk2 := qrTake_yes bs b off (m - 4) (cp - 4) (pos + 4) cb w3 (HBL3.out w3 HB3.out) (by omega) hcm (by omega) (by omega) (by omega)
              rw [← ho3] at htk2
              have hzl := rb_lt bs (pos + 4) cb
              have hz16 : 2 ^ cb ≤ 2 ^ 16 := Nat.pow_le_pow_right (by decide) hcl.2
              obtain ⟨z, hzv⟩ : ∃ z, z = rb bs (pos + 4) cb := ⟨_, rfl⟩
              rw [← hzv] at htk2 hzl hst2
              have hz : z ≤ 65535 := by omega
              obtain ⟨m4, hm4⟩ : ∃ x, x = m - 4 := ⟨_, rfl⟩
              obtain ⟨c4, hc4⟩ : ∃ x, x = cp - 4 := ⟨_, rfl⟩
              rw [← hm4, ← hc4] at htk2
              rw [← hm4, ← hc4]
              have q1 : m4 + (pos + 4) = 8 * bs.length := by omega
              have q2 : cb ≤ m4 := by omega
              have q3 : m4 ≤ c4 := by omega
              have q4 : c4 ≤ 9223372036854775807 := by omega
              have q5 : m4 + 4 = m := by omega
              have Q1 := Lib.hid q1
              have Q5 := Lib.hid q5
              clear hzl hz16 hzv ho3 ho2 hm4 hc4 q1 q5
              go_wp2_with fail
              refine htk2.mono ?_
              rintro e w4 ⟨o3, rfl, ho3, hb4⟩
              have HB4 := Lib.hid (bup HB3.out hb4)
              have HO4 := Lib.hid (own_up HO3.out hb4)
              have HS4 := Lib.hid (HS3.out.up hb4)
              obtain ⟨R2, hR2⟩ : ∃ x, x = segS bs 2 z z (pos + 4 + cb) [] := ⟨_, rfl⟩
              rw [← hR2] at hst2
              have hlf : Left bs off o3 (m4 - cb) (c4 - cb) (pos + 4 + cb) := ⟨by have := Q1.out; omega, by omega, by omega, fun hp => ho3 (by omega)⟩
              have hsd : Calls Try.prog 14 #[.slice (some ⟨b, o3, none⟩) (m4 - cb) (c4 - cb), .int .i64 2, .int .i64 z] w4 fun e w' => Below w4.heap.size w4 w' ∧ SaidQ bs b off R2 e w' :=
                qrSaid_2 bs b off o3 (m4 - cb) (c4 - cb) (pos + 4 + cb) z R2 w4 (HBL3.out w4 HB4.out) hlf hl hz hR2.symm
              have HR2 := Lib.hid hR2
              clear htk2 hb4 HB3 HO3 HS3 ho3 hlf hR2
              go_wp2_with fail
              refine hsd.mono ?_
              rintro e w5 ⟨hb5, hq⟩
              have HB5 := Lib.hid (bup HB4.out hb5)
              have HO5 := Lib.hid (own_up HO4.out hb5)
              have HS5 := Lib.hid (HS4.out.up hb5)
              clear hsd hb5 HB4 HO4 HS4
              rcases hq with ⟨hn, rfl⟩ | ⟨t, p2, tv, o5, n5, c5, hn, rfl, htv, hl5⟩
              · rw [hn] at hst2
                have hr : R.1 = 1 := by rw [← HSG.out, hst2]
                have HRN := Lib.hid hr
                clear hr hst2 HSG hn
                go_wp2_with fail
                go_ret3
                exact ⟨bup HW.out.2 HB5.out, .inr (.inl ⟨HRN.out, rfl⟩)⟩
              · obtain ⟨tA, tc, htf, -, -⟩ := htv.rd.form
                obtain ⟨tn, htn⟩ : ∃ x, x = (bl t).length := ⟨_, rfl⟩
                rw [← htn] at htf
                subst htf
                clear htn
                rw [hn] at hst2
                have hge := segS_ge bs 2 z z _ [] t p2 (by rw [← HR2.out]; exact hn)
                have HSG2 : Hid (segsF bs ver f' p2 (acc ++ [(2, t)]) = R) := Lib.hid (by rw [← HSG.out, hst2])
                have HTV := Lib.hid htv
                have n5a := hl5.sum
                have n5b := hl5.le
                have n5c := hl5.max
                have n5d : n5 ≤ 8 * bs.length := by omega
                have n5e : n5 < m := by have := Q5.out; have := Q1.out; omega
                have n5f : k + 1 ≤ p2 := by omega
                have HP : Hid (n5 + p2 = 8 * bs.length ∧ 8 * bs.length < p2 + f' ∧ (0 < n5 → some (⟨b, o5, none⟩ : Addr) = some ⟨b, off + p2, none⟩)) := Lib.hid ⟨n5a, by have := HF.out; omega, fun hp => by rw [hl5.at_ hp]⟩
                clear hn hst2 HSG htv hl5 hge n5a
                go_wp2_with (with_reducible refine stop_at (o := ⟨some 72, _, _, _, _, _⟩) ?_)
                refine Lib.hid ?_
                refine list_app_2c rfl _ _ _ rfl w.heap.size 46 i0 _ 32 Try.underlying24 hi0 hz0 hz1 hz2 rfl _ k cells rfl (own_up HO5.out (bal (brf w5) _)) _ _ [.int .i64 2, .slice tA tn tc] rfl rfl (fun j u hu => ?_) (fun u hu => ?_) (by unfold maxLen; omega) (by omega) (by have := HB5.out.size; simp; omega) ?_
                · have hj : j = 0 ∨ j = 1 := by have := (List.getElem?_eq_some_iff.1 hu).1; simp at this; omega
                  rw [addr_add, Nat.zero_add, (Blk.fresh w5 46 #[.int .i64 2, .slice tA tn tc]).cell]
                  rcases hj with rfl | rfl <;> simpa using hu
                · simp only [List.mem_cons, List.not_mem_nil, or_false] at hu
                  rcases hu with rfl | rfl <;> rfl
                intro v1 w6 ho1 hg1
                have HO6 : Hid (w6.ownsRow w.heap.size 46 2 v1 (k + 1) (cells ++ [.int .i64 2, .slice tA tn tc]) ∧ SgL w6 (cells ++ [.int .i64 2, .slice tA tn tc]) (acc ++ [(2, t)]) ∧ k + 1 = (acc ++ [(2, t)]).length) := Lib.hid ⟨ho1, by
                  have h8 := bal (brf w5) (.cells #[.int .i64 2, .slice tA tn tc] 46)
                  have h9 := ((HS5.out.up h8).app (s := (2, t)) (HTV.out.up h8))
                  exact h9.grown (own_up HO5.out (bal (brf w5) _)) (by decide) hg1, by rw [List.length_append, HKL.out]; rfl⟩
                have HB6 : Hid (Below w.heap.size w w6) := Lib.hid (below_grown (bal HB5.out _) hg1 (own_up HO5.out (bal (brf w5) _)) (by have := HB5.out.size; simp; omega))
                clear ho1 hg1 HO5 HS5 HB5
                go_wp2_with fail
                go_roundw
                case rel => exact ⟨f', p2, n5, c5, k + 1, _, _, _, rfl, n5d, n5b, n5c, n5f, HP, HO6, HSG2, HB6⟩
                case measure => simp [lenV]; omega
            · rw [if_pos (by omega)] at hst2
              have hr : R.1 = 1 := by rw [← HSG.out, hst2]
              have HRN := Lib.hid hr
              have htk2 := qrTake_no (some ⟨b, o2, none⟩) (m - 4) (cp - 4) cb w3 (by omega) (by omega) (by omega) (by omega)
              clear hr hst2 HSG ho2
              go_wp2_with fail
              refine htk2.mono ?_
              rintro e w3 ⟨rfl, rfl⟩
              clear htk2
              go_wp2_with fail
              go_ret3
              exact ⟨bup HW.out.2 HB3.out, .inr (.inl ⟨HRN.out, rfl⟩)⟩
          · -- 4 = the mode, qrSaid_4 = the walk of its segment
            have hst2 := hst
            rw [if_neg (by decide), if_neg (by decide)] at hst2
            have hcl := cntOf_le 4 ver (by decide)
            have hct : ∀ w', Calls Try.prog 13 #[.int .i64 4, .int .i64 ver] w' fun e w'' => e = .returned (.tuple #[.int .i64 (cntOf 4 ver : Nat), .bool true]) ∧ Below w'.heap.size w' w'' := fun w' => specCount_yes 4 ver w' rfl
            obtain ⟨cb, hcb⟩ : ∃ x, x = cntOf 4 ver := ⟨_, rfl⟩
            rw [← hcb] at hcl hst2 hct
            clear hcb hst
            go_wp2_with fail
            refine htk.mono ?_
            rintro e w2 ⟨o2, rfl, ho2, hb2⟩
            have HB2 := Lib.hid (bup HB.out hb2)
            have HO2 := Lib.hid (own_up HO.out.1 hb2)
            have HS2 := Lib.hid (HO.out.2.1.up hb2)
            have HKL := Lib.hid HO.out.2.2
            clear htk hb2 HB HO
            go_wp2_with fail
            refine (hct _).mono ?_
            rintro e w3 ⟨rfl, hb3⟩
            have HB3 := Lib.hid (bup HB2.out hb3)
            have HO3 := Lib.hid (own_up HO2.out hb3)
            have HS3 := Lib.hid (HS2.out.up hb3)
            clear hct hb3 HB2 HO2 HS2
            have HBL3 := Lib.hid (fun (w' : World) (hb : Below w.heap.size w w') (j : Nat) (hj : j < 8 * bs.length) => show w'.cell? ⟨b, off + j, none⟩ = some (.bool (bitB bs j == 1)) from by rw [below_cells hb b _ (by have := HBL.out j hj; exact World.block_lt_of_cell? w _ this)]; exact HBL.out j hj)
            by_cases hcm : cb ≤ m - 4
            · rw [if_neg (by omega)] at hst2
              have ho3 : o2 = off + (pos + 4) := ho2 (by omega)
              have htk2 := qrTake_yes bs b off (m - 4) (cp - 4) (pos + 4) cb w3 (HBL3.out w3 HB3.out) (by omega) hcm (by omega) (by omega) (by omega)
              rw [← ho3] at htk2
              have hzl := rb_lt bs (pos + 4) cb
              have hz16 : 2 ^ cb ≤ 2 ^ 16 := Nat.pow_le_pow_right (by decide) hcl.2
              obtain ⟨z, hzv⟩ : ∃ z, z = rb bs (pos + 4) cb := ⟨_, rfl⟩
              rw [← hzv] at htk2 hzl hst2
              have hz : z ≤ 65535 := by omega
              obtain ⟨m4, hm4⟩ : ∃ x, x = m - 4 := ⟨_, rfl⟩
              obtain ⟨c4, hc4⟩ : ∃ x, x = cp - 4 := ⟨_, rfl⟩
              rw [← hm4, ← hc4] at htk2
              rw [← hm4, ← hc4]
              have q1 : m4 + (pos + 4) = 8 * bs.length := by omega
              have q2 : cb ≤ m4 := by omega
              have q3 : m4 ≤ c4 := by omega
              have q4 : c4 ≤ 9223372036854775807 := by omega
              have q5 : m4 + 4 = m := by omega
              have Q1 := Lib.hid q1
              have Q5 := Lib.hid q5
              clear hzl hz16 hzv ho3 ho2 hm4 hc4 q1 q5
              go_wp2_with fail
              refine htk2.mono ?_
              rintro e w4 ⟨o3, rfl, ho3, hb4⟩
              have HB4 := Lib.hid (bup HB3.out hb4)
              have HO4 := Lib.hid (own_up HO3.out hb4)
              have HS4 := Lib.hid (HS3.out.up hb4)
              obtain ⟨R2, hR2⟩ : ∃ x, x = segS bs 4 z z (pos + 4 + cb) [] := ⟨_, rfl⟩
              rw [← hR2] at hst2
              have hlf : Left bs off o3 (m4 - cb) (c4 - cb) (pos + 4 + cb) := ⟨by have := Q1.out; omega, by omega, by omega, fun hp => ho3 (by omega)⟩
              have hsd : Calls Try.prog 14 #[.slice (some ⟨b, o3, none⟩) (m4 - cb) (c4 - cb), .int .i64 4, .int .i64 z] w4 fun e w' => Below w4.heap.size w4 w' ∧ SaidQ bs b off R2 e w' :=
                qrSaid_4 bs b off o3 (m4 - cb) (c4 - cb) (pos + 4 + cb) z R2 w4 (HBL3.out w4 HB4.out) hlf hl hz hR2.symm
              have HR2 := Lib.hid hR2
              clear htk2 hb4 HB3 HO3 HS3 ho3 hlf hR2
              go_wp2_with fail
              refine hsd.mono ?_
              rintro e w5 ⟨hb5, hq⟩
              have HB5 := Lib.hid (bup HB4.out hb5)
              have HO5 := Lib.hid (own_up HO4.out hb5)
              have HS5 := Lib.hid (HS4.out.up hb5)
              clear hsd hb5 HB4 HO4 HS4
              rcases hq with ⟨hn, rfl⟩ | ⟨t, p2, tv, o5, n5, c5, hn, rfl, htv, hl5⟩
              · rw [hn] at hst2
                have hr : R.1 = 1 := by rw [← HSG.out, hst2]
                have HRN := Lib.hid hr
                clear hr hst2 HSG hn
                go_wp2_with fail
                go_ret3
                exact ⟨bup HW.out.2 HB5.out, .inr (.inl ⟨HRN.out, rfl⟩)⟩
              · obtain ⟨tA, tc, htf, -, -⟩ := htv.rd.form
                obtain ⟨tn, htn⟩ : ∃ x, x = (bl t).length := ⟨_, rfl⟩
                rw [← htn] at htf
                subst htf
                clear htn
                rw [hn] at hst2
                have hge := segS_ge bs 4 z z _ [] t p2 (by rw [← HR2.out]; exact hn)
                have HSG2 : Hid (segsF bs ver f' p2 (acc ++ [(4, t)]) = R) := Lib.hid (by rw [← HSG.out, hst2])
                have HTV := Lib.hid htv
                have n5a := hl5.sum
                have n5b := hl5.le
                have n5c := hl5.max
                have n5d : n5 ≤ 8 * bs.length := by omega
                have n5e : n5 < m := by have := Q5.out; have := Q1.out; omega
                have n5f : k + 1 ≤ p2 := by omega
                have HP : Hid (n5 + p2 = 8 * bs.length ∧ 8 * bs.length < p2 + f' ∧ (0 < n5 → some (⟨b, o5, none⟩ : Addr) = some ⟨b, off + p2, none⟩)) := Lib.hid ⟨n5a, by have := HF.out; omega, fun hp => by rw [hl5.at_ hp]⟩
                clear hn hst2 HSG htv hl5 hge n5a
                go_wp2_with (with_reducible refine stop_at (o := ⟨some 72, _, _, _, _, _⟩) ?_)
                refine Lib.hid ?_
                refine list_app_2c rfl _ _ _ rfl w.heap.size 46 i0 _ 32 Try.underlying24 hi0 hz0 hz1 hz2 rfl _ k cells rfl (own_up HO5.out (bal (brf w5) _)) _ _ [.int .i64 4, .slice tA tn tc] rfl rfl (fun j u hu => ?_) (fun u hu => ?_) (by unfold maxLen; omega) (by omega) (by have := HB5.out.size; simp; omega) ?_
                · have hj : j = 0 ∨ j = 1 := by have := (List.getElem?_eq_some_iff.1 hu).1; simp at this; omega
                  rw [addr_add, Nat.zero_add, (Blk.fresh w5 46 #[.int .i64 4, .slice tA tn tc]).cell]
                  rcases hj with rfl | rfl <;> simpa using hu
                · simp only [List.mem_cons, List.not_mem_nil, or_false] at hu
                  rcases hu with rfl | rfl <;> rfl
                intro v1 w6 ho1 hg1
                have HO6 : Hid (w6.ownsRow w.heap.size 46 2 v1 (k + 1) (cells ++ [.int .i64 4, .slice tA tn tc]) ∧ SgL w6 (cells ++ [.int .i64 4, .slice tA tn tc]) (acc ++ [(4, t)]) ∧ k + 1 = (acc ++ [(4, t)]).length) := Lib.hid ⟨ho1, by
                  have h8 := bal (brf w5) (.cells #[.int .i64 4, .slice tA tn tc] 46)
                  have h9 := ((HS5.out.up h8).app (s := (4, t)) (HTV.out.up h8))
                  exact h9.grown (own_up HO5.out (bal (brf w5) _)) (by decide) hg1, by rw [List.length_append, HKL.out]; rfl⟩
                have HB6 : Hid (Below w.heap.size w w6) := Lib.hid (below_grown (bal HB5.out _) hg1 (own_up HO5.out (bal (brf w5) _)) (by have := HB5.out.size; simp; omega))
                clear ho1 hg1 HO5 HS5 HB5
                go_wp2_with fail
                go_roundw
                case rel => exact ⟨f', p2, n5, c5, k + 1, _, _, _, rfl, n5d, n5b, n5c, n5f, HP, HO6, HSG2, HB6⟩
                case measure => simp [lenV]; omega
            · rw [if_pos (by omega)] at hst2
              have hr : R.1 = 1 := by rw [← HSG.out, hst2]
              have HRN := Lib.hid hr
              have htk2 := qrTake_no (some ⟨b, o2, none⟩) (m - 4) (cp - 4) cb w3 (by omega) (by omega) (by omega) (by omega)
              clear hr hst2 HSG ho2
              go_wp2_with fail
              refine htk2.mono ?_
              rintro e w3 ⟨rfl, rfl⟩
              clear htk2
              go_wp2_with fail
              go_ret3
              exact ⟨bup HW.out.2 HB3.out, .inr (.inl ⟨HRN.out, rfl⟩)⟩
        · have hr : R.1 = 2 := by rw [← HSG.out, hst, if_neg h0, if_pos h1]
          have HRN := Lib.hid hr
          have n0 : ((md : Int) == 0) = false := by rw [beq_eq_false_iff_ne]; omega
          have n1 : ((md : Int) != 1) = true := by simp; omega
          have n2 : ((md : Int) != 2) = true := by simp; omega
          have n4 : ((md : Int) != 4) = true := by simp; omega
          clear hr hst HSG h0 h1
          go_wp2_with fail
          refine htk.mono ?_
          rintro e w2 ⟨o2, rfl, ho2, hb2⟩
          have HB2 := Lib.hid (bup HB.out hb2)
          clear htk hb2 HB HO
          go_wp2_with fail
          go_ret3
          exact ⟨bup HW.out.2 HB2.out, .inr (.inr ⟨HRN.out, rfl⟩)⟩
    · have hm4 : ¬ (4 : Int) ≤ (m : Int) := by omega
      have hr : R = (0, acc) := by
        rw [← HSG.out]
        have hp := HP.out
        cases f with
        | zero => rfl
        | succ f => rw [segsF, if_pos (by omega)]
      have HRN := Lib.hid hr
      have hrg := HO.out.2.1.rd HO.out.2.2 HO.out.1
      have HRG := Lib.hid hrg
      clear hr hrg HSG HO
      go_wp2_with fail
      go_ret3
      exact ⟨bup HW.out.2 HB.out, .inl ⟨by rw [HRN.out], _, rfl, by rw [HRN.out]; exact HRG.out⟩⟩
end Go.Proofs.Ytjkfkkenaiodoaa
