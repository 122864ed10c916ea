/-
  WALK: spec.dmThrees in the mode C40.
-/
import Derived.Test.YtjpcajecmfhppaaDoorDe2
namespace Go.Proofs.YtjpcajecmfhppaaDoor
open Go.RowKit

theorem Rd.takeD {w : World} {B : Nat} {A : Option Addr} {n cap k : Nat} {xs : List Value} (h : Rd w B (.slice A n cap) xs) (hk : k ≤ n) : Rd w B (.slice A k cap) (xs.take k) := by
  obtain ⟨A', cap', hv, h1, h2, h3⟩ := h
  injection hv with e1 e2 e3
  subst e1 e2 e3
  have hl : (xs.take k).length = k := by rw [List.length_take]; omega
  refine ⟨_, _, by rw [hl], by omega, h2, fun hp => ?_⟩
  obtain ⟨b, off, e, hb, hc⟩ := h3 (by omega)
  exact ⟨b, off, e, hb, fun j u hu => hc j u (by
    have hj : j < k := by have := (List.getElem?_eq_some_iff.1 hu).1; omega
    rwa [List.getElem?_take_of_lt hj] at hu)⟩
/-- A whole block of the call's own as a row. -/
theorem own_lit {w : World} {g base : Nat} {e : TypeId} {xs : List Value} (h : Blk w g e xs.toArray) (hb : base ≤ g) (hn : xs.length ≤ maxLen) : w.ownsRow base e 1 (.slice (some ⟨g, 0, none⟩) xs.length xs.length) xs.length xs :=
  ⟨by simp, .inr ⟨g, xs.length, _, rfl, hb, h, Nat.le_refl _, hn, by simp, by simp⟩⟩
/-- The words of a text in the mode C40. -/
def C40Of (t : List UInt8) (l : List Nat) : Prop := l = ascW t ∨ ∃ t1 t2 vs, t = t1 ++ t2 ∧ vs.length % 3 = 0 ∧ c40S 0 vs = some t1 ∧ l = 230 :: (tripW vs ++ 254 :: ascW t2)
theorem take_snoc_s (s : ByteArray) (i : Nat) (h : i < s.size) : s.data.toList.take (i + 1) = s.data.toList.take i ++ [s[i]] := by
  have h' : i < s.data.toList.length := by simpa using h
  rw [List.take_succ_eq_append_getElem h']
  rfl
set_option maxRecDepth 100000 in
set_option maxHeartbeats 4000000 in
theorem threes_any (s : ByteArray) (w : World) (hs : s.size ≤ 1555) (hc : ∀ c ∈ s.data.toList, c.toNat < 128) :
    Calls Tryd.prog 20 #[.int .i64 1, .string s] w fun e w' => ∃ v l, e = .returned v ∧ RdT w' 5 v (wv8 l) ∧ C40Of s.data.toList l ∧ Below w.heap.size w w' := by
  obtain ⟨i0, hi0, hz0, hz1, hz2⟩ := info_parts info_u8P
  obtain ⟨i1, hi1, hy0, hy1, hy2⟩ := info_parts (P := Tryd.prog) (e := 3) (z := .int .i64 0) (bytes := 8) (size := 1) (by kernel_rfl)
  have HC := Lib.hid hc
  clear hc
  go_enter Tryd.func20, Tryd.ntmps20
  go_wp2_with fail
  go_loopw [5, 6, 7, 13] (fun av bv mv iv wr => ∃ (i N bst mny : Nat), i ≤ s.size ∧ iv = .int .i64 (i : Int) ∧ bv = .int .i64 (bst : Int) ∧ mv = .int .i64 (mny : Int) ∧ bst ≤ i ∧ N ≤ 2 * i ∧ mny ≤ N ∧ mny % 3 = 0 ∧ Hid (wr.ownsRow w.heap.size 3 1 av N (nv (c40L (s.data.toList.take i)))) ∧ Hid (N = (c40L (s.data.toList.take i)).length) ∧ Hid (mny = (c40L (s.data.toList.take bst)).length) ∧ Hid (Below w.heap.size w wr)) (fun _ _ _ iv _ => s.size - (intOf iv).toNat)
  case atStart => exact ⟨0, 0, 0, 0, Nat.zero_le _, rfl, rfl, rfl, Nat.le_refl _, Nat.zero_le _, Nat.le_refl _, rfl, Lib.hid (own_nil _ _ _), Lib.hid rfl, Lib.hid rfl, Lib.hid (brf w)⟩
  case round =>
    obtain ⟨i, N, bst, mny, hi, rfl, rfl, rfl, hbi, hN, hmN, hm3, HO, HNL, HM, HB⟩ := hrel
    rename World => wr
    by_cases hlt : i < s.size
    · have h1c : s[i].toNat < 128 := HC.out s[i] (by show s.data.toList[i]'(by simpa using hlt) ∈ _; exact List.getElem_mem _)
      have HT := Lib.hid (take_snoc_s s i hlt)
      have hvl := c40V_len s[i].toNat
      obtain ⟨k, hk⟩ : ∃ k, k = (c40V s[i].toNat).length := ⟨_, rfl⟩
      rw [← hk] at hvl
      have HK := Lib.hid hk
      clear hk
      go_wp2_with fail
      refine (dmValues_any s[i] _ h1c).mono ?_
      rintro e wa ⟨v, rfl, hv, hb⟩
      have HV := Lib.hid hv
      have HOa := Lib.hid (own_up HO.out hb)
      have HBa := Lib.hid (bup HB.out hb)
      clear hv hb HO HB
      go_wp2_with (with_reducible refine stop_at (o := ⟨some 32, _, _, _, _, _⟩) ?_)
      refine Lib.hid ?_
      refine list_app_rd _ rfl _ _ _ rfl w.heap.size 3 i1 _ 8 Tryd.underlying80 hi1 hy0 hy1 hy2 rfl _ N _ rfl HOa.out _ _ (nv (c40V s[i].toNat)) rfl HV.out.rd (nv_one _) (by rw [nv_len, ← HK.out]; unfold maxLen; omega) (by rw [nv_len, ← HK.out]; omega) HBa.out.size ?_
      intro v2 w2 ho1 hg1
      rw [nv_len, ← HK.out, ← nv_app, ← c40L_snoc, ← HT.out] at ho1
      have HB2 : Hid (Below w.heap.size w w2) := Lib.hid (below_grown HBa.out hg1 HOa.out HBa.out.size)
      obtain ⟨A2, cp2, hv2, -, -⟩ := (RdT.of_own ho1).rd.form
      obtain ⟨n2, hn2⟩ : ∃ n, n = N + k := ⟨_, rfl⟩
      have hl2 : (nv (c40L (s.data.toList.take (i + 1)))).length = n2 := by
        rw [nv_len, HT.out, c40L_snoc, List.length_append, ← HNL.out, ← HK.out, hn2]
      rw [hl2] at hv2
      rw [← hn2] at ho1
      subst hv2
      have HO2 := Lib.hid ho1
      have HN2 : Hid (n2 = (c40L (s.data.toList.take (i + 1))).length) := Lib.hid (by rw [← hl2, nv_len])
      have hn2b : n2 ≤ 2 * (i + 1) ∧ N ≤ n2 := by omega
      clear ho1 hg1 hn2 hl2 HV HOa HBa HT HK HNL hvl h1c
      obtain ⟨r, hr⟩ : ∃ r, r = n2 % 3 := ⟨_, rfl⟩
      have d1 : Int.tmod (n2 : Int) 3 = (r : Int) := by rw [Int.tmod_eq_emod_of_nonneg (by omega)]; omega
      have d2 : (n2 : Int) % 3 = (r : Int) := by omega
      by_cases hr0 : r = 0
      · have hr1 : (r : Int) = 0 := by omega
        have hn3 : n2 % 3 = 0 := by omega
        have hm9 : mny ≤ n2 := by omega
        clear hr hr0
        go_wp2_with fail
        go_roundw
        case rel => exact ⟨i + 1, n2, i + 1, n2, hlt, by go_num, by go_num, rfl, Nat.le_refl _, hn2b.1, Nat.le_refl _, hn3, HO2, HN2, HN2, HB2⟩
        case measure => simp [intOf]; omega
      · have hr1 : ¬ (r : Int) = 0 := by omega
        have hm9 : mny ≤ n2 ∧ bst ≤ i + 1 := by omega
        clear hr hr0
        go_wp2_with fail
        go_roundw
        case rel => exact ⟨i + 1, n2, bst, mny, hlt, by go_num, rfl, rfl, hm9.2, hn2b.1, hm9.1, hm3, HO2, HN2, HM, HB2⟩
        case measure => simp [intOf]; omega
    · have hie : i = s.size := by omega
      by_cases hb0 : bst = 0
      · have hb1 : (bst : Int) = 0 := by omega
        clear hb0 hie
        have HC2 := HC
        go_wp2_with fail
        refine (asciiWords_any s wr (by omega) HC2.out).mono ?_
        rintro e wa ⟨v, rfl, hv, hb⟩
        have HV := Lib.hid hv
        have HBa := Lib.hid (bup HB.out hb)
        clear hv hb
        go_wp2_with fail
        go_ret
        exact ⟨_, _, rfl, HV.out, .inl rfl, HBa.out⟩
      · have hb1 : ¬ (bst : Int) = 0 := by omega
        have HTK : Hid (s.data.toList.take i = s.data.toList) := Lib.hid (by rw [hie]; exact List.take_of_length_le (by simp))
        have hsp : c40L s.data.toList = c40L (s.data.toList.take bst) ++ c40L (s.data.toList.drop bst) := by rw [← c40L_app, List.take_append_drop]
        have htk : (c40L s.data.toList).take mny = c40L (s.data.toList.take bst) := by rw [hsp, HM.out, List.take_left]
        have HTM := Lib.hid htk
        have hO := HO.out
        rw [HTK.out] at hO
        obtain ⟨A5, c5, hv5, hc1, hc2⟩ := (RdT.of_own hO).rd.form
        have hNN : (nv (c40L s.data.toList)).length = N := by rw [nv_len, HNL.out, HTK.out]
        rw [hNN] at hv5 hc1
        unfold maxLen at hc2
        subst hv5
        have HRD : Hid (Rd wr wr.heap.size (.slice A5 mny c5) (nv (c40L (s.data.toList.take bst)))) := Lib.hid (by
          have h9 := (RdT.of_own hO).rd.takeD hmN
          have e9 : (nv (c40L s.data.toList)).take mny = nv (c40L (s.data.toList.take bst)) := by rw [← HTM.out]; simp [nv, List.map_take]
          rw [e9] at h9; exact h9)
        have HL1 : Hid (∀ c ∈ s.data.toList.take bst, c.toNat < 128) := Lib.hid (fun c hc => HC.out c (List.mem_of_mem_take hc))
        have hbs : bst ≤ s.size := by omega
        have hm1 : mny ≤ 1000000 := by omega
        have hsl : ∀ w, (Instr.slice 9 (.string s) (some (.int .i64 (bst : Int))) none none).run Tryd.prog w = .ok (.string (s.extract bst s.size)) w := fun w => by
          have h9 := run_slice_string_from_if (P := Tryd.prog) w 9 s .i64 (bst : Int) Tryd.underlying9
          rw [if_pos ⟨by omega, by omega⟩, Int.toNat_natCast] at h9
          exact h9
        clear hO hsp htk hNN hie hb0
        have h40 := c40S_lt _ _ _ (c40S_all _ HL1.out)
        have hlc : (c40L (s.data.toList.take bst)).length ≤ 1000000 := by rw [← HM.out]; exact hm1
        have hl3 : (c40L (s.data.toList.take bst)).length % 3 = 0 := by rw [← HM.out]; exact hm3
        have H40 := Lib.hid (And.intro h40 (And.intro hlc hl3))
        obtain ⟨vs, hvs⟩ : ∃ vs, vs = c40L (s.data.toList.take bst) := ⟨_, rfl⟩
        have HVS := Lib.hid hvs
        rw [← hvs] at HRD H40
        clear h40 hlc hl3 hvs
        go_wp2_with fail
        refine (triples_any _ vs _ (HRD.out.up (bal (brf wr) (.cells #[.int .u8 230] 5))) H40.out.2.1 H40.out.1 H40.out.2.2).mono ?_
        rintro e wa ⟨v, rfl, hv, hb⟩
        have hbk : Blk wa wr.heap.size 5 (wv8 [230]).toArray := Blk.up (Blk.fresh wr _ _) hb
        have hown := own_lit (base := w.heap.size) hbk HB.out.size (by decide)
        have HV := Lib.hid hv
        have HBa : Hid (Below w.heap.size w wa) := Lib.hid (bup (bal HB.out _) hb)
        have htl := tripW_len vs.length vs (Nat.le_refl _) H40.out.2.2
        obtain ⟨L, hL⟩ : ∃ L, L = (tripW vs).length := ⟨_, rfl⟩
        have hLb : L ≤ 2000000 := by rw [hL, htl]; have := H40.out.2.1; omega
        have HLL := Lib.hid hL
        have HOWN := Lib.hid hown
        clear hv hb hbk hown HRD htl hL
        go_wp2_with (with_reducible refine stop_at (o := ⟨some 57, _, _, _, _, _⟩) ?_)
        refine Lib.hid ?_
        refine list_app_rd _ rfl _ _ _ rfl w.heap.size 5 i0 _ 1 Tryd.underlying27 hi0 hz0 hz1 hz2 rfl _ 1 _ rfl HOWN.out _ _ (wv8 (tripW vs)) rfl HV.out.rd (wv8_one _) (by rw [wv8_len, ← HLL.out]; unfold maxLen; omega) (by rw [wv8_len, ← HLL.out]; omega) HBa.out.size ?_
        intro vq wq ho1 hg1
        have HBq : Hid (Below w.heap.size w wq) := Lib.hid (below_grown HBa.out hg1 HOWN.out HBa.out.size)
        rw [wv8_len, ← HLL.out, ← wv8_app] at ho1
        have HOq := Lib.hid ho1
        clear ho1 hg1 HOWN HV HBa
        go_wp2_with fail
        have hxs : (s.extract bst s.size).data.toList = s.data.toList.drop bst := by
          rw [Lib.extract_data]; exact List.take_of_length_le (by simp)
        have hxz : (s.extract bst s.size).size = s.size - bst := by
          have h9 := congrArg List.length hxs
          rw [List.length_drop] at h9
          exact h9
        have hal : (ascW (s.data.toList.drop bst)).length ≤ 1555 := by
          have h9 := ascW_len _ (s.data.toList.drop bst) (Nat.le_refl _)
          have h8 : (s.data.toList.drop bst).length ≤ s.size := by simp
          omega
        have HX := Lib.hid (And.intro hxs (And.intro hxz hal))
        have HL2 : Hid (∀ c ∈ s.data.toList.drop bst, c.toNat < 128) := Lib.hid (fun c hc => HC.out c (List.mem_of_mem_drop hc))
        clear hxs hxz hal
        refine Can.wp_region_can (fun w' => Below w.heap.size w w') 999 [0, 3, 4, 5, 1, 2, 6, 7, 8] (by kernel_rfl) (by kernel_rfl) (fun _ _ d _ _ h => by cases d <;> exact h) HBq.out.drew (fun hHeld => ?_)
        repeat (refine Can.can_pure (v := ?_) rfl rfl (Or.inl ⟨by rfl, ?_⟩) ?_; rotate_left; (focus ((intro w hSw); (try dsimp only at hSw); go_simp; (try with_reducible rfl))); (try simp only [Act.put, List.getElem_toArray, List.getElem_cons_succ, List.getElem_cons_zero, List.setIfInBounds_toArray, List.set_cons_zero, List.set_cons_succ]))
        refine Can.can_eff rfl rfl (by rfl) (fun K hK => ?_)
        go_simp
        refine hK.out _ _ (bal hHeld _) (fun hHeld1 => ?_)
        clear hK K
        (try simp only [Act.put, List.getElem_toArray, List.getElem_cons_succ, List.getElem_cons_zero, List.setIfInBounds_toArray, List.set_cons_zero, List.set_cons_succ])
        have hown9 : wq.drew.ownsRow w.heap.size 5 1 vq (1 + L) (wv8 ([230] ++ tripW vs)) := HOq.out
        refine Can.can_eff rfl rfl (by rfl) (fun K hK => ?_)
        refine step_app1 rfl _ _ 27 rfl w.heap.size 5 i0 _ 1 Tryd.underlying27 hi0 hz0 hz1 hz2 rfl vq (1 + L) _ rfl wq.drew (.int .u8 254) hown9 1 rfl rfl (by unfold maxLen; omega) (by omega) HBq.out.size ?_
        intro gg cap w5 ho5 hg5
        have hB5 : Below w.heap.size w w5 := below_grown (bal hHeld _) hg5 (own_up (w := wq.drew) hown9 (bal (brf wq.drew) _)) (by have := hHeld.size; simp at this ⊢; omega)
        refine hK.out _ _ hB5 (fun hHeld5 => ?_)
        clear hK K hHeld1
        (try simp only [Act.put, List.getElem_toArray, List.getElem_cons_succ, List.getElem_cons_zero, List.setIfInBounds_toArray, List.set_cons_zero, List.set_cons_succ])
        refine Can.can_eff rfl rfl (by rfl) (fun K hK => ?_)
        go_simp
        refine (asciiWords_any (s.extract bst s.size) _ (by rw [HX.out.2.1]; omega) (by rw [HX.out.1]; exact HL2.out)).mono ?_
        rintro e w9 ⟨v9, rfl, hv9, hb9⟩
        refine hK.out _ _ (bup hHeld5 hb9) (fun hHeld9 => ?_)
        clear hK K
        (try simp only [Act.put, List.getElem_toArray, List.getElem_cons_succ, List.getElem_cons_zero, List.setIfInBounds_toArray, List.set_cons_zero, List.set_cons_succ])
        rw [HX.out.1] at hv9
        have hown5 := own_up ho5 hb9
        refine Can.can_eff rfl rfl (by rfl) (fun K hK => ?_)
        refine step_app_rd w9 rfl _ _ 27 rfl w.heap.size 5 i0 _ 1 Tryd.underlying27 hi0 hz0 hz1 hz2 rfl (.slice (some ⟨gg, 0, none⟩) (1 + L + 1) cap) (1 + L + 1) _ rfl hown5 w9.heap.size v9 (wv8 (ascW (s.data.toList.drop bst))) rfl hv9.rd (wv8_one _) (by rw [wv8_len]; have := HX.out.2.2; unfold maxLen; omega) (by rw [wv8_len]; have := HX.out.2.2; omega) hHeld9.size ?_
        intro vz wz hoz hgz
        have hBz : Below w.heap.size w wz := below_grown hHeld9 hgz hown5 hHeld9.size
        refine hK.out _ _ hBz (fun hHeldz => ?_)
        clear hK K
        (try simp only [Act.put, List.getElem_toArray, List.getElem_cons_succ, List.getElem_cons_zero, List.setIfInBounds_toArray, List.set_cons_zero, List.set_cons_succ])
        repeat (refine Can.can_pure (v := ?_) rfl rfl (Or.inl ⟨by rfl, ?_⟩) ?_; rotate_left; (focus ((intro w hSw); (try dsimp only at hSw); go_simp; (try with_reducible rfl))); (try simp only [Act.put, List.getElem_toArray, List.getElem_cons_succ, List.getElem_cons_zero, List.setIfInBounds_toArray, List.set_cons_zero, List.set_cons_succ]))
        refine Can.can_done ?_
        have HRZ : Hid (RdT wz 5 vz (wv8 (230 :: (tripW vs ++ 254 :: ascW (s.data.toList.drop bst))))) := Lib.hid (by
          have h9 := RdT.of_own hoz
          have e9 : wv8 ([230] ++ tripW vs) ++ [Value.int .u8 254] ++ wv8 (ascW (s.data.toList.drop bst)) = wv8 (230 :: (tripW vs ++ 254 :: ascW (s.data.toList.drop bst))) := by
            simp [wv8]
          rw [e9] at h9; exact h9)
        have HBZ := Lib.hid hBz
        have HCF : Hid (C40Of s.data.toList (230 :: (tripW vs ++ 254 :: ascW (s.data.toList.drop bst)))) := Lib.hid (.inr ⟨s.data.toList.take bst, s.data.toList.drop bst, vs, (List.take_append_drop _ _).symm, H40.out.2.2, by rw [HVS.out]; exact c40S_all _ HL1.out, rfl⟩)
        clear hoz hgz hBz hHeldz hown5 hHeld9 hv9 hb9 hB5 ho5 hg5 hHeld5 hHeld hown9 HOq HBq
        go_wp2_with fail
        go_ret
        exact ⟨_, _, rfl, HRZ.out, HCF.out, HBZ.out⟩
end Go.Proofs.YtjpcajecmfhppaaDoor
