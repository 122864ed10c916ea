/-
  WALKS: spec.AZPlain.
-/
import Derived.Test.YtgihmnecllanfaaAp3
namespace Go.Proofs.Ytgihmnecllanfaa
open Go.RowKit

theorem conv_anyT {P : Program} (w : World) (src dst e : TypeId) (s : ByteArray) {u : TypeDesc} (hs : P.underlying src = some u) (hd : P.underlying dst = some (.slice e)) (he : P.underlying e = some (.int .u8)) (hm : s.size ≤ maxLen) :
    ∃ v w', (convert src dst (.string s)).run P w = .ok v w' ∧ RdT w' e v (bl s.data.toList) ∧ Below w.heap.size w w' := by
  have hl : (bl s.data.toList).length = s.size := by rw [bl_len]; simp
  refine ⟨_, _, Lib.run_convert_string_bytes w src dst e s hs hd he, ⟨_, _, by rw [hl], by rw [hl]; exact grownCap_ge _ _ _ _, grownCap_le_maxLen _ _ _ _ hm, fun _ => ⟨_, 0, _, _, rfl, Lib.bytesWorld_at_new w e s, fun j u hu => ?_⟩⟩, ?_⟩
  · have hj : j < s.size := by have := (List.getElem?_eq_some_iff.1 hu).1; rwa [hl] at this
    have h1 := Lib.bytesWorld_cell w e s j hj
    rw [World.cell?, Lib.bytesWorld_at_new] at h1
    rw [Nat.zero_add]
    rw [bl_at _ j (by simpa using hj)] at hu
    rw [← hu]
    have e2 : s.data.toList.getD j 0 = s.data.toList[j]'(by simpa using hj) := by rw [List.getD, List.getElem?_eq_getElem]; rfl
    rw [e2] at h1
    simpa using h1
  · exact ⟨rfl, rfl, rfl, by rw [Lib.bytesWorld_size]; omega, fun b hb => Lib.bytesWorld_at_old w e s b hb⟩
theorem low7_of (l : List UInt8) (h : ∀ b ∈ l, b.toNat < 128) : low7 l = l := by
  unfold low7
  induction l with
  | nil => rfl
  | cons b l ih =>
    rw [List.map_cons, ih (fun x hx => h x (List.mem_cons_of_mem _ hx)), Nat.mod_eq_of_lt (h b (List.mem_cons_self ..))]
    simp
theorem extract_list (s : ByteArray) (a b : Nat) : (s.extract a b).data.toList = (s.data.toList.take b).drop a := by
  simp [ByteArray.data_extract, Array.toList_extract, List.extract, List.drop_take]
theorem headL_le (n : Nat) : (headL n).length ≤ 21 := by
  unfold headL; split <;> simp only [List.length_append, putL_len] <;> omega
set_option maxRecDepth 100000 in
set_option maxHeartbeats 4000000 in
theorem plain_any (s : ByteArray) (l : List UInt8) (w : World) (hl : s.data.toList = l) (hs : l.length ≤ 400) (h7 : ∀ b ∈ l, b.toNat < 128) :
    Calls Try.prog 14 #[.string s] w fun e w' => ∃ v', e = .returned v' ∧ Rd w' w'.heap.size v' (bv (plainL 7 l)) ∧ Below w.heap.size w w' := by
  have hsz : s.size = l.length := by rw [← hl]; simp
  have HL := Lib.hid hl; have H7 := Lib.hid h7; clear hl h7
  have hs9 : s.size ≤ 400 := by omega
  have HSZ := Lib.hid hsz
  have hs1 : s.size ≤ l.length := by omega
  have hs2 : l.length ≤ s.size := by omega
  clear hsz
  go_enter Try.func14, Try.ntmps14
  go_wp2_with fail
  go_loopw [4] (fun iv wr => ∃ (q n : Nat) (bs : List Bool) (tx : List UInt8), 62 * q ≤ s.size + 61 ∧ iv = .int .i64 ((62 * q : Nat) : Int) ∧ n ≤ 600 * q ∧ tx.length ≤ 62 * q ∧ Hid (WrAt wr w.heap.size (w.heap.size + 1) bs (ofL tx) 0 n) ∧ Hid (bs ++ plainL (7 - q) (l.drop (62 * q)) = plainL 7 l) ∧ Hid (Below w.heap.size w wr ∧ w.heap.size + 1 ≤ wr.heap.size)) (fun iv _ => s.size - (intOf iv).toNat)
  case atStart =>
    refine ⟨0, 0, [], [], by omega, rfl, by omega, by simp, Lib.hid ⟨⟨_, Blk.fresh w _ _, own_nil _ _ _⟩, rfl, by omega⟩, Lib.hid (by simp), Lib.hid ⟨bal (brf w) _, by simp⟩⟩
  case round =>
    obtain ⟨q, n, bs, tx, hq, rfl, hn, htx, HW, HBS, HK⟩ := hrel
    by_cases hlt : 62 * q < s.size
    · by_cases h62 : 62 * q + 62 ≤ s.size
      · obtain ⟨E, hE⟩ : ∃ E, E = (62 * q + 62) := ⟨_, rfl⟩
        have hmin : min (s.size : Int) (62 * (q : Int) + 62) = (E : Int) := by omega
        have hpl : (s.extract (62 * q) E).data.toList = (l.drop (62 * q)).take 62 := by
          rw [hE, extract_list, HL.out, List.drop_take]
          (rw [show 62 * q + 62 - 62 * q = 62 by omega])
        have hsz : (s.extract (62 * q) E).size = ((l.drop (62 * q)).take 62).length := by rw [← hpl, Array.length_toList]; rfl
        have hpn : ((l.drop (62 * q)).take 62).length = 62 := by rw [List.length_take, List.length_drop]; omega
        obtain ⟨v1, w1, hcv, hrd, hb1⟩ := conv_anyT (P := Try.prog) wr 9 32 5 (s.extract (62 * q) E) Try.underlying9 Try.underlying32 Try.underlying5 (by rw [hsz, hpn]; unfold maxLen; omega)
        rw [hpl] at hrd
        have HRD := Lib.hid hrd; have HB1 := Lib.hid hb1; clear hrd hb1
        have HPN := Lib.hid hpn
        have hm7 : ∀ b ∈ (l.drop (62 * q)).take 62, b.toNat < 128 := fun b hb => H7.out b (List.mem_of_mem_drop (List.mem_of_mem_take hb))
        have HLW := Lib.hid (low7_of _ hm7)
        have hstep : plainL (7 - q) (l.drop (62 * q)) = headL (62) ++ byteBits ((l.drop (62 * q)).take 62) ++ plainL (7 - (q + 1)) (l.drop (62 * (q + 1))) := by
          have e7 : 7 - q = (7 - (q + 1)) + 1 := by omega
          rw [e7, plainL, if_neg (by rw [List.length_drop]; omega), hpn, List.drop_drop, show 62 * q + 62 = 62 * (q + 1) by omega]
        have HST := Lib.hid hstep
        have hE1 : 62 * q ≤ E := by omega
        have hE2 : E ≤ s.size := by omega
        clear hpl hsz hpn hm7 hstep hE
        go_wp2_with fail
        refine (bytes_yes w.heap.size (w.heap.size + 1) n (62) bs tx 0 w.heap.size _ ((l.drop (62 * q)).take 62) _ (HW.out.up HB1.out) HRD.out HPN.out (by omega) (by omega) (by omega) (by omega) (by omega) (Nat.le_refl _) (Nat.le_trans HK.out.2 HB1.out.size)).mono ?_
        rintro e w2 ⟨rfl, hw2, hb2, hs2, -⟩
        have HW2 := Lib.hid hw2
        have HK2 := Lib.hid (And.intro ((HK.out.1.trans (HB1.out.mono (Nat.le_trans (Nat.le_succ _) HK.out.2))).trans hb2) (Nat.le_trans (Nat.le_trans HK.out.2 HB1.out.size) hs2))
        have hhl := headL_le (62)
        have HHL := Lib.hid hhl
        clear hw2 hb2 hs2 hcv hhl
        go_wp2
        go_roundw
        case rel => exact ⟨q + 1, _, _, _, by omega, by go_num, by have := HHL.out; omega, by rw [List.length_append, HLW.out, List.length_take, List.length_drop]; omega, HW2, Lib.hid (by rw [← HBS.out, HST.out, HLW.out]; simp only [List.append_assoc]), HK2⟩
        case measure => simp [intOf]; omega
      · obtain ⟨E, hE⟩ : ∃ E, E = s.size := ⟨_, rfl⟩
        have hmin : min (s.size : Int) (62 * (q : Int) + 62) = (E : Int) := by omega
        have hpl : (s.extract (62 * q) E).data.toList = (l.drop (62 * q)).take 62 := by
          rw [hE, extract_list, HL.out, List.drop_take]
          (rw [List.take_of_length_le (by rw [List.length_drop]; omega), List.take_of_length_le (by rw [List.length_drop]; omega)])
        have hsz : (s.extract (62 * q) E).size = ((l.drop (62 * q)).take 62).length := by rw [← hpl, Array.length_toList]; rfl
        have hpn : ((l.drop (62 * q)).take 62).length = s.size - 62 * q := by rw [List.length_take, List.length_drop]; omega
        obtain ⟨v1, w1, hcv, hrd, hb1⟩ := conv_anyT (P := Try.prog) wr 9 32 5 (s.extract (62 * q) E) Try.underlying9 Try.underlying32 Try.underlying5 (by rw [hsz, hpn]; unfold maxLen; omega)
        rw [hpl] at hrd
        have HRD := Lib.hid hrd; have HB1 := Lib.hid hb1; clear hrd hb1
        have HPN := Lib.hid hpn
        have hm7 : ∀ b ∈ (l.drop (62 * q)).take 62, b.toNat < 128 := fun b hb => H7.out b (List.mem_of_mem_drop (List.mem_of_mem_take hb))
        have HLW := Lib.hid (low7_of _ hm7)
        have hstep : plainL (7 - q) (l.drop (62 * q)) = headL (s.size - 62 * q) ++ byteBits ((l.drop (62 * q)).take 62) ++ plainL (7 - (q + 1)) (l.drop (62 * (q + 1))) := by
          have e7 : 7 - q = (7 - (q + 1)) + 1 := by omega
          rw [e7, plainL, if_neg (by rw [List.length_drop]; omega), hpn, List.drop_drop, show 62 * q + 62 = 62 * (q + 1) by omega]
        have HST := Lib.hid hstep
        have hE1 : 62 * q ≤ E := by omega
        have hE2 : E ≤ s.size := by omega
        clear hpl hsz hpn hm7 hstep hE
        go_wp2_with fail
        refine (bytes_yes w.heap.size (w.heap.size + 1) n (s.size - 62 * q) bs tx 0 w.heap.size _ ((l.drop (62 * q)).take 62) _ (HW.out.up HB1.out) HRD.out HPN.out (by omega) (by omega) (by omega) (by omega) (by omega) (Nat.le_refl _) (Nat.le_trans HK.out.2 HB1.out.size)).mono ?_
        rintro e w2 ⟨rfl, hw2, hb2, hs2, -⟩
        have HW2 := Lib.hid hw2
        have HK2 := Lib.hid (And.intro ((HK.out.1.trans (HB1.out.mono (Nat.le_trans (Nat.le_succ _) HK.out.2))).trans hb2) (Nat.le_trans (Nat.le_trans HK.out.2 HB1.out.size) hs2))
        have hhl := headL_le (s.size - 62 * q)
        have HHL := Lib.hid hhl
        clear hw2 hb2 hs2 hcv hhl
        go_wp2
        go_roundw
        case rel => exact ⟨q + 1, _, _, _, by omega, by go_num, by have := HHL.out; omega, by rw [List.length_append, HLW.out, List.length_take, List.length_drop]; omega, HW2, Lib.hid (by rw [← HBS.out, HST.out, HLW.out]; simp only [List.append_assoc]), HK2⟩
        case measure => simp [intOf]; omega
    · have HE : Hid (bs = plainL 7 l) := Lib.hid (by
        have := HBS.out
        rw [List.drop_eq_nil_of_le (by omega)] at this
        have e0 : plainL (7 - q) [] = [] := by cases h : 7 - q <;> simp [plainL]
        rw [e0, List.append_nil] at this; exact this)
      obtain ⟨v, h1, h2⟩ := HW.out.own
      have c0 : wr.cell? ⟨w.heap.size, 0, none⟩ = some v := by rw [h1.cell]; rfl
      have HO := Lib.hid (Rd.of_own h2)
      clear h1 h2
      go_wp2
      go_ret
      exact ⟨_, rfl, by rw [← HE.out]; exact HO.out, HK.out.1⟩
end Go.Proofs.Ytgihmnecllanfaa
