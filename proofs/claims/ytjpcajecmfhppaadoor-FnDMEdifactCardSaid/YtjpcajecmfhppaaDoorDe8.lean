/-
  WALKS: laws.dmScript, laws.dmParsed, the laws FnDMC40 and FnDMEdifact.
-/
import Derived.Test.YtjpcajecmfhppaaDoorDe7
namespace Go.Proofs.YtjpcajecmfhppaaDoor
open Go.RowKit

set_option maxRecDepth 100000 in
set_option maxHeartbeats 4000000 in
theorem lawScript_any (g m : Nat) (s : ByteArray) (w : World) (h : Seg1 w g m s) (hm : m = 1 ∨ m = 4) (hs : s.size ≤ 2147483647) :
    Calls Tryd.prog 6 #[.slice (some ⟨g, 0, none⟩) 1 1] w fun e w' => (e = .returned (.tuple #[.slice none 0 0, .bool false]) ∨ ∃ v l, e = .returned (.tuple #[v, .bool true]) ∧ RdT w' 5 v (wv8 l) ∧ ScrOf m s l ∧ s.size ≤ 1555 ∧ allM m s = true) ∧ Below w.heap.size w w' := by
  have HS := Lib.hid h
  clear h
  go_enter Tryd.func6, Tryd.ntmps6
  go_wp2_with fail
  go_loopw [11] (fun iv wr => ∃ i : Nat, i ≤ 1 ∧ iv = .int .i64 (i : Int) ∧ Hid (i = 1 → s.size ≤ 1555 ∧ allM m s = true) ∧ Hid (Below w.heap.size w wr)) (fun iv _ => 1 - (intOf iv).toNat)
  case atStart => exact ⟨0, by decide, rfl, Lib.hid (fun h => by cases h), Lib.hid (brf w)⟩
  case round =>
    obtain ⟨i, hi, rfl, HI, HB⟩ := hrel
    rename World => wr
    have hi2 : i = 0 ∨ i = 1 := by omega
    rcases hi2 with hi0 | hi0
    · have hii : (i : Int) = 0 := by omega
      obtain ⟨c0, c1⟩ := (HS.out.up HB.out).cells
      rw [hii]
      clear hi0 hii HI
      have hal := bal (brf wr) (.cells #[.int .i64 (m : Int), .string s] 24)
      have HBa := Lib.hid (bup HB.out hal)
      obtain ⟨B, hB⟩ : ∃ B, B = allM m s := ⟨_, rfl⟩
      have him := fun w' => inMode_any m s w' hm hs
      rw [← hB] at him
      have HBB := Lib.hid hB
      clear hB hal
      cases B with
      | false =>
        go_wp2_with fail
        refine (him _).mono ?_
        rintro e wa ⟨rfl, rfl⟩
        go_wp2_with fail
        go_ret2
        exact ⟨.inl rfl, HBa.out⟩
      | true =>
        go_wp2_with fail
        refine (him _).mono ?_
        rintro e wa ⟨rfl, hwa⟩
        rw [hwa]
        clear hwa
        by_cases h15 : s.size ≤ 1555
        · have h15i : ¬ (1555 : Int) < (s.size : Int) := by omega
          have HF : Hid (s.size ≤ 1555 ∧ allM m s = true) := Lib.hid ⟨h15, HBB.out.symm⟩
          clear h15
          go_wp2_with fail
          go_roundw
          case rel => exact ⟨1, by decide, rfl, Lib.hid (fun _ => HF.out), HBa⟩
          case measure => simp [intOf]
        · have h15i : (1555 : Int) < (s.size : Int) := by omega
          clear h15
          go_wp2_with fail
          go_ret2
          exact ⟨.inl rfl, HBa.out⟩
    · have hii : (i : Int) = 1 := by omega
      have HF := Lib.hid (HI.out hi0)
      have HSr := Lib.hid (HS.out.up HB.out)
      have hc : ∀ c ∈ s.data.toList, c.toNat < 128 := by
        rcases hm with rfl | rfl
        · exact allM_1 HF.out.2
        · exact fun c hc => by have := allM_4 HF.out.2 c hc; omega
      have HC := Lib.hid hc
      rw [hii]
      clear hi0 hii HI hc
      go_wp2_with fail
      refine (script_any g m s _ HSr.out hm HF.out.1 HC.out).mono ?_
      rintro e wa ⟨v, l, rfl, hv, hsc, hb⟩
      have HV := Lib.hid hv
      have HSC := Lib.hid hsc
      have HBa := Lib.hid (bup HB.out hb)
      clear hv hsc hb
      go_wp2_with fail
      go_ret2
      exact ⟨.inr ⟨v, l, rfl, HV.out, HSC.out, HF.out.1, HF.out.2⟩, HBa.out⟩
set_option maxRecDepth 100000 in
set_option maxHeartbeats 4000000 in
theorem parsed_any (g m : Nat) (s : ByteArray) (which : Int) (w : World) (h : Seg1 w g m s) (hm : m = 1 ∨ m = 4) (hs : s.size ≤ 2147483647) (hw : -9223372036854775808 ≤ which ∧ which ≤ 9223372036854775807) :
    Calls Tryd.prog 5 #[.slice (some ⟨g, 0, none⟩) 1 1, .int .i64 which] w fun e w' => e = .returned (.bool true) ∧ Below w.heap.size w w' := by
  have HS := Lib.hid h
  clear h
  go_enter Tryd.func5, Tryd.ntmps5
  go_wp2_with fail
  refine (lawScript_any g m s _ HS.out hm hs).mono ?_
  rintro e w1 ⟨rfl | ⟨v, l, rfl, hv, hsc, h15, hall⟩, hb1⟩
  · have HB1 := Lib.hid hb1
    clear hb1
    go_wp2_with fail
    refine (sized_any none 0 0 which _ (by decide) hw).mono ?_
    rintro e w2 ⟨rfl | ⟨k, hk1, hk2, rfl⟩, hb2⟩
    · have HB2 := Lib.hid (bup HB1.out hb2)
      clear hb2 HB1
      unfold szZ
      go_wp2_with fail
      go_ret
      exact ⟨rfl, bal HB2.out _⟩
    · have HB2 := Lib.hid (bup HB1.out hb2)
      clear hb2 HB1
      unfold szV
      go_wp2_with fail
      go_ret
      exact ⟨rfl, bal HB2.out _⟩
  · have HB1 := Lib.hid hb1
    have HV := Lib.hid hv
    have HSC := Lib.hid hsc
    have hc : ∀ c ∈ s.data.toList, c.toNat < 128 := by
      rcases hm with rfl | rfl
      · exact allM_1 hall
      · exact fun c hc => by have := allM_4 hall c hc; omega
    have h4 : m = 4 → ∀ c ∈ s.data.toList, 32 ≤ c.toNat ∧ c.toNat ≤ 94 := fun h => by subst h; exact allM_4 hall
    have hlen := scr_len hsc h15 hc
    have HC := Lib.hid (And.intro hc (And.intro h4 hlen.2))
    obtain ⟨A, c, hvf, -, -⟩ := hv.rd.form
    obtain ⟨L, hL⟩ : ∃ L, L = l.length := ⟨_, rfl⟩
    rw [wv8_len, ← hL] at hvf
    subst hvf
    have hLb : L ≤ 1000000 := by rw [hL]; exact hlen.1
    have HLL := Lib.hid hL
    clear hb1 hv hsc hall hc h4 hlen hL
    go_wp2_with fail
    refine (sized_any A L c which _ (by omega) hw).mono ?_
    rintro e w2 ⟨rfl | ⟨k, hk1, hk2, rfl⟩, hb2⟩
    · have HB2 := Lib.hid (bup HB1.out hb2)
      clear hb2 HB1
      unfold szZ
      go_wp2_with fail
      go_ret
      exact ⟨rfl, bal HB2.out _⟩
    · have HB2 := Lib.hid (bup HB1.out hb2)
      have HV2 := Lib.hid (HV.out.up hb2)
      have HS2 := Lib.hid ((HS.out.up HB1.out).up hb2)
      have hle := szA_le k hk1
      unfold szV
      obtain ⟨D, hD⟩ : ∃ D, D = szA k 4 := ⟨_, rfl⟩
      rw [← hD] at hk2 hle ⊢
      have hal := bal (brf w2) (.cells #[.int .i64 (szA k 0 : Nat), .int .i64 (szA k 1 : Nat), .int .i64 (szA k 2 : Nat), .int .i64 (szA k 3 : Nat), .int .i64 (D : Nat), .int .i64 (szA k 5 : Nat), .int .i64 (szA k 6 : Nat)] 31)
      have HV3 := Lib.hid (HV2.out.up hal)
      have HS3 := Lib.hid (HS2.out.up hal)
      have HB3 := Lib.hid (bup HB2.out hal)
      clear hb2 HB1 HV HV2 HB2 HS2 hal hD
      go_wp2_with fail
      refine (padded_any _ l D _ HV3.out.rd HC.out.2.2 (by omega) (by rw [← HLL.out]; omega)).mono ?_
      rintro e w4 ⟨v4, rest, rfl, hv4, hln, hlt, hb4⟩
      have hbl : (l ++ 129 :: rest).length ≤ 2147483647 := by rw [List.length_append, List.length_cons, ← HLL.out]; rw [← HLL.out] at hln; omega
      have hrl : 2 ≤ rest.length := by rw [← HLL.out] at hln; omega
      have HSAY := Lib.hid (scr_said HSC.out HC.out.1 HC.out.2.1 hrl)
      have HV4 := Lib.hid hv4
      have HLT := Lib.hid hlt
      have HB4 := Lib.hid (bup HB3.out hb4)
      have HS4 := Lib.hid (HS3.out.up hb4)
      clear hv4 hln hlt hb4 HB3 HS3 HV3
      go_wp2_with fail
      refine (dmParse_any v4 (l ++ 129 :: rest) s.data.toList _ HV4.out.rd HLT.out hbl HSAY.out (by simp; omega)).mono ?_
      rintro e w5 ⟨A1, l1, c1, rfl, hb5⟩
      rw [ofL_of]
      unfold impD
      have HB5 := Lib.hid (bup HB4.out hb5)
      have HS5 := Lib.hid (HS4.out.up hb5)
      clear hb5 HB4 HS4 HV4
      go_wp2_with fail
      have hal := bal (brf w5) (.cells #[.string s, .slice A1 l1 c1, .slice none 0 0, .string ⟨#[]⟩, .int .i64 0, .int .i64 (-1), .int .i64 (-1), .int .i64 1] 36)
      have hS6 := HS5.out.up hal
      have hB6 := bup HB5.out hal
      clear hal
      refine Can.wp_region_can (fun w' => w'.cell? ⟨w5.heap.size, 0, none⟩ = some (.string s) ∧ Seg1 w' g m s ∧ Below w.heap.size w w') 999 [0, 1, 2, 3, 4, 5, 6, 7, 8] (by kernel_rfl) (by kernel_rfl) (fun _ _ d _ _ h => by cases d <;> exact h) ⟨by simp, hS6, hB6.drew⟩ (fun hHeld => ?_)
      repeat (refine Can.can_pure (v := ?_) rfl rfl (Or.inl ⟨by rfl, ?_⟩) ?_; rotate_left; (focus ((intro w hSw); (try dsimp only at hSw); go_simp; (try with_reducible rfl))); (try simp only [Act.put, List.getElem_toArray, List.getElem_cons_succ, List.getElem_cons_zero, List.setIfInBounds_toArray, List.set_cons_zero, List.set_cons_succ]))
      refine Can.can_eff rfl rfl (by rfl) (fun K hK => ?_)
      go_simp
      refine (said_any g m s _ hHeld.2.1 hs).mono ?_
      rintro e w6 ⟨rfl, hb6⟩
      refine hK.out _ _ ⟨cell_up hHeld.1 hb6, hHeld.2.1.up hb6, bup hHeld.2.2 hb6⟩ (fun hHeld1 => ?_)
      clear hK K
      (try simp only [Act.put, List.getElem_toArray, List.getElem_cons_succ, List.getElem_cons_zero, List.setIfInBounds_toArray, List.set_cons_zero, List.set_cons_succ])
      repeat (refine Can.can_pure (v := ?_) rfl rfl (Or.inl ⟨by rfl, ?_⟩) ?_; rotate_left; (focus ((intro w hSw); (try dsimp only at hSw); go_simp; (try with_reducible rfl))); (try simp only [Act.put, List.getElem_toArray, List.getElem_cons_succ, List.getElem_cons_zero, List.setIfInBounds_toArray, List.set_cons_zero, List.set_cons_succ]))
      refine Can.can_done ?_
      have HBF := Lib.hid hHeld1.2.2
      clear hHeld1 hHeld hb6 hS6 hB6
      go_wp2_with fail
      go_ret
      exact ⟨ret_bool (by simp), HBF.out⟩
theorem c40_law (s : ByteArray) (which : Int) (w : World) (hs : s.size ≤ maxLen) (hw : -9223372036854775808 ≤ which ∧ which ≤ 9223372036854775807) :
    Calls Tryd.prog 3 #[.string s, .int .i64 which] w fun e w' => e = .returned (.bool true) ∧ Below w.heap.size w w' := by
  unfold maxLen at hs
  by_cases hbig : 2147483647 < s.size
  · go_enter Tryd.func3, Tryd.ntmps3
    go_wp2_with fail
    go_ret
    exact ⟨rfl, brf w⟩
  · have HS : Hid (Seg1 (w.alloc (.cells #[.int .i64 (1 : Int), .string s] 24)) w.heap.size 1 s) := Lib.hid (Blk.fresh w _ _)
    have hal := bal (brf w) (.cells #[.int .i64 (1 : Int), .string s] 24)
    have HA := Lib.hid hal
    clear hal
    go_enter Tryd.func3, Tryd.ntmps3
    go_wp2_with fail
    refine (parsed_any _ 1 s which _ HS.out (.inl rfl) (by omega) hw).mono ?_
    rintro e w1 ⟨rfl, hb⟩
    have HB := Lib.hid (bup HA.out hb)
    clear hb
    go_wp2_with fail
    go_ret
    exact ⟨rfl, HB.out⟩
theorem edi_law (s : ByteArray) (which : Int) (w : World) (hs : s.size ≤ maxLen) (hw : -9223372036854775808 ≤ which ∧ which ≤ 9223372036854775807) :
    Calls Tryd.prog 4 #[.string s, .int .i64 which] w fun e w' => e = .returned (.bool true) ∧ Below w.heap.size w w' := by
  unfold maxLen at hs
  by_cases hbig : 2147483647 < s.size
  · go_enter Tryd.func4, Tryd.ntmps4
    go_wp2_with fail
    go_ret
    exact ⟨rfl, brf w⟩
  · have HS : Hid (Seg1 (w.alloc (.cells #[.int .i64 (4 : Int), .string s] 24)) w.heap.size 4 s) := Lib.hid (Blk.fresh w _ _)
    have hal := bal (brf w) (.cells #[.int .i64 (4 : Int), .string s] 24)
    have HA := Lib.hid hal
    clear hal
    go_enter Tryd.func4, Tryd.ntmps4
    go_wp2_with fail
    refine (parsed_any _ 4 s which _ HS.out (.inr rfl) (by omega) hw).mono ?_
    rintro e w1 ⟨rfl, hb⟩
    have HB := Lib.hid (bup HA.out hb)
    clear hb
    go_wp2_with fail
    go_ret
    exact ⟨rfl, HB.out⟩
end Go.Proofs.YtjpcajecmfhppaaDoor
