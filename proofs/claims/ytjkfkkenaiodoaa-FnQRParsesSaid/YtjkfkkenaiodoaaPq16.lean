/-
  WALK: laws.qrSays.
-/
import Derived.Test.YtjkfkkenaiodoaaPq15
namespace Go.Proofs.Ytjkfkkenaiodoaa
open Go.RowKit

theorem byteTs_app (a b : List Seg) : byteTs (a ++ b) = byteTs a ++ byteTs b := by simp [byteTs]
theorem byteTs_take4 (sg : List Seg) (i : Nat) (s : Seg) (h : sg[i]? = some s) (h4 : s.1 = 4) : byteTs (sg.take (i + 1)) = byteTs (sg.take i) ++ [s.2] ∧ (byteTs sg)[(byteTs (sg.take i)).length]? = some s.2 := by
  have hi : i < sg.length := (List.getElem?_eq_some_iff.1 h).1
  have e : sg[i] = s := by rw [List.getElem?_eq_getElem hi] at h; exact Option.some.inj h
  have e1 : sg.take (i + 1) = sg.take i ++ [s] := by rw [List.take_succ_eq_append_getElem hi, e]
  have e2 : byteTs [s] = [s.2] := by simp [byteTs, h4]
  have e3 : sg = (sg.take i ++ [s]) ++ sg.drop (i + 1) := by rw [← e1, List.take_append_drop]
  refine ⟨by rw [e1, byteTs_app, e2], ?_⟩
  conv => lhs; arg 1; rw [e3]
  rw [byteTs_app, byteTs_app, e2, List.append_assoc, List.getElem?_append_right (Nat.le_refl _), Nat.sub_self]
  rfl
theorem byteTs_taken (sg : List Seg) (i : Nat) (s : Seg) (h : sg[i]? = some s) (h4 : s.1 ≠ 4) : byteTs (sg.take (i + 1)) = byteTs (sg.take i) := by
  have hi : i < sg.length := (List.getElem?_eq_some_iff.1 h).1
  have e : sg[i] = s := by rw [List.getElem?_eq_getElem hi] at h; exact Option.some.inj h
  have e1 : sg.take (i + 1) = sg.take i ++ [s] := by rw [List.take_succ_eq_append_getElem hi, e]
  rw [e1, byteTs_app]
  have e2 : byteTs [s] = [] := by simp [byteTs, h4]
  rw [e2, List.append_nil]
set_option maxRecDepth 100000 in
set_option maxHeartbeats 4000000 in
theorem qrSays_any (sg : List Seg) (Ar As : Option Addr) (lr cr ls cs lv : Nat) (gv : Value) (w : World) (hlv : lv < 4) (hg : RdG w gv sg) (hs : RdBB w (.slice As ls cs) (byteTs sg)) (hT : (textOf sg).length ≤ 100000000000) (ha : ascT (textOf sg) = true) (hsg : sg.length ≤ 100000000000) :
    Calls Try.prog 10 #[impC (ofL (textOf sg)) (.slice Ar lr cr) (.slice As ls cs) (lvS lv), gv, .int .i64 lv] w fun e w' => e = .returned (.bool true) ∧ Below w.heap.size w w' := by
  have HG := Lib.hid hg
  have HS := Lib.hid hs
  have HA := Lib.hid ha
  obtain ⟨A, cap, rfl, k1, k2, k3⟩ := hg
  clear hs ha k1 k2 k3
  unfold impC
  go_enter Try.func10, Try.ntmps10
  go_wp2_with fail
  refine (qrSaidAll_any _ sg _ (HG.out.up (bal (brf w) _)) hT).mono ?_
  rintro e w1 ⟨hb1, ⟨ht, rfl⟩ | ⟨hf, rfl⟩⟩
  · have hb := bup (bal (brf w) (.cells #[.string (ofL (textOf sg)), .slice Ar lr cr, .slice As ls cs, .string (lvS lv), .int .i64 0, .int .i64 (-1), .int .i64 (-1), .int .i64 1] 31)) hb1
    have HZ1 := Lib.hid (Blk.up (Blk.fresh w 31 #[.string (ofL (textOf sg)), .slice Ar lr cr, .slice As ls cs, .string (lvS lv), .int .i64 0, .int .i64 (-1), .int .i64 (-1), .int .i64 1]) hb1)
    have HB1 := Lib.hid hb
    clear hb1 ht hb
    obtain ⟨S, hS⟩ : ∃ x, x = ofL (textOf sg) := ⟨_, rfl⟩
    rw [← hS] at HZ1
    rw [← hS]
    clear hS
    have hqn := fun w' => qrName_any lv w' hlv
    go_wp2_with fail
    refine Can.wp_region_can (fun w' => Below w1.heap.size w1 w' ∧ w'.cell? ⟨w.heap.size, 0, none⟩ = some (.string S) ∧ w'.cell? ⟨w.heap.size, 3, none⟩ = some (.string (lvS lv))) 999 [0, 1, 2, 3, 4, 5, 6, 7, 8, 9, 10] (by kernel_rfl) (by kernel_rfl) (fun _ _ d _ _ h => by cases d <;> exact h) ⟨bdr (brf _), by rw [(Blk.drew HZ1.out).cell]; rfl, by rw [(Blk.drew HZ1.out).cell]; rfl⟩ (fun hHeld => ?_)
    repeat (first | (refine Can.can_pure (v := ?_) rfl rfl (Or.inl ⟨by rfl, ?_⟩) ?_; rotate_left; (focus ((intro w hSw); (try dsimp only at hSw); go_simp; (try with_reducible rfl))); (try simp only [Act.put, List.getElem_toArray, List.getElem_cons_succ, List.getElem_cons_zero, List.setIfInBounds_toArray, List.set_cons_zero, List.set_cons_succ])) | (refine Can.can_pure (v := undef) rfl rfl (Or.inr ⟨by rfl, rfl⟩) ?_; (try simp only [Act.put, List.getElem_toArray, List.getElem_cons_succ, List.getElem_cons_zero, List.setIfInBounds_toArray, List.set_cons_zero, List.set_cons_succ])))
    refine Can.can_eff rfl rfl (by rfl) (fun K hK => ?_)
    go_simp
    refine (hqn _).mono ?_
    rintro e w5 ⟨rfl, rfl⟩
    refine hK.out _ _ hHeld (fun hHeld2 => ?_)
    clear hK K
    (try simp only [Act.put, List.getElem_toArray, List.getElem_cons_succ, List.getElem_cons_zero, List.setIfInBounds_toArray, List.set_cons_zero, List.set_cons_succ])
    repeat (first | (refine Can.can_pure (v := ?_) rfl rfl (Or.inl ⟨by rfl, ?_⟩) ?_; rotate_left; (focus ((intro w hSw); (try dsimp only at hSw); go_simp; (try with_reducible rfl))); (try simp only [Act.put, List.getElem_toArray, List.getElem_cons_succ, List.getElem_cons_zero, List.setIfInBounds_toArray, List.set_cons_zero, List.set_cons_succ])) | (refine Can.can_pure (v := undef) rfl rfl (Or.inr ⟨by rfl, rfl⟩) ?_; (try simp only [Act.put, List.getElem_toArray, List.getElem_cons_succ, List.getElem_cons_zero, List.setIfInBounds_toArray, List.set_cons_zero, List.set_cons_succ])))
    refine Can.can_done ?_
    have HB2 := Lib.hid (bdr HB1.out)
    have HZ2 := Lib.hid (Blk.drew HZ1.out)
    clear hHeld hHeld2 HB1 HZ1
    obtain ⟨w2, hw2⟩ : ∃ x, x = World.drew w1 := ⟨_, rfl⟩
    rw [← hw2] at HB2 HZ2
    rw [← hw2]
    clear hw2
    go_wp2_with fail
    have HG2 := Lib.hid (HG.out.up HB2.out)
    have HS2 := Lib.hid (HS.out.up HB2.out)
    clear HG HS
    go_loopw [9, 30] (fun mv iv wr => ∃ (i q : Nat), i ≤ sg.length ∧ mv = .int .i64 (q : Int) ∧ iv = .int .i64 (i : Int) ∧ Hid (q = (byteTs (sg.take i)).length) ∧ Hid (Below w2.heap.size w2 wr)) (fun _ iv _ => sg.length - (intOf iv).toNat)
    case atStart => exact ⟨0, 0, Nat.zero_le _, rfl, rfl, Lib.hid rfl, Lib.hid (brf _)⟩
    case round =>
      obtain ⟨i, q, hi, rfl, rfl, HQ, HB⟩ := hrel
      rename World => wr
      have HZr := Lib.hid (HZ2.out.up HB.out)
      by_cases hlt : i < sg.length
      · obtain ⟨A', cap', hv, k1, k2, k3⟩ := HG2.out.up HB.out
        injection hv with hv1 hv2 hv3
        subst hv1
        obtain ⟨b, o, rfl, hbb, hcc⟩ := k3 (by omega)
        obtain ⟨s, hs⟩ : ∃ s, sg[i]? = some s := ⟨_, List.getElem?_eq_getElem hlt⟩
        obtain ⟨u, d1, d2, u3⟩ := hcc i s hs
        obtain ⟨uA, uc, huv, -, -⟩ := u3.rd.form
        obtain ⟨ul, hul⟩ : ∃ x, x = (bl s.2).length := ⟨_, rfl⟩
        rw [← hul] at huv
        subst huv
        have HU := Lib.hid u3
        have HSI := Lib.hid hs
        obtain ⟨md, hmd⟩ : ∃ x, x = s.1 := ⟨_, rfl⟩
        rw [← hmd] at d1
        have HMD := Lib.hid hmd
        clear hv2 hv3 k1 k2 k3 hcc hbb u3 hul hs hmd
        by_cases h4 : md = 4
        · subst h4
          have hq := byteTs_take4 sg i s HSI.out HMD.out.symm
          obtain ⟨A3, c3, hv3, g1, g2, g3⟩ := (HS2.out.up HB.out).cells
          injection hv3 with e1 e2 e3
          subst e1
          have hql : q < (byteTs sg).length := by rw [HQ.out]; exact (List.getElem?_eq_some_iff.1 hq.2).1
          have hqi : (q : Int) < (ls : Int) := by omega
          obtain ⟨b3, o3, rfl, -, hc3⟩ := g3 (by omega)
          obtain ⟨u2, f1, f2⟩ := hc3 q s.2 (by rw [HQ.out]; exact hq.2)
          obtain ⟨uA2, uc2, huv2, -, -⟩ := f2.rd.form
          obtain ⟨ul2, hul2⟩ : ∃ x, x = (bl s.2).length := ⟨_, rfl⟩
          rw [← hul2] at huv2
          subst huv2
          have HF := Lib.hid f2
          have HQ2 : Hid (q + 1 = (byteTs (sg.take (i + 1))).length) := Lib.hid (by rw [hq.1, List.length_append, List.length_singleton, ← HQ.out])
          clear hq hc3 g1 g2 g3 e2 e3 hul2 f2
          have hqb : q < 100000000000 := by have := byteTs_len sg; omega
          have hsl : (s.2.map UInt8.toNat).length ≤ 100000000000 := by
            have g1 := textOf_take sg i s HSI.out
            have g2 := textOf_le sg (i + 1)
            rw [g1, List.length_append] at g2
            rw [List.length_map]; omega
          have hqy : ∀ w', Below wr.heap.size wr w' → Calls Try.prog 9 #[.slice uA2 ul2 uc2, .slice uA ul uc] w' fun e w'' => e = .returned (.bool true) ∧ Below w'.heap.size w' w'' := fun w' hb =>
            qrBytes_any _ _ (s.2.map UInt8.toNat) w' (by rw [← bl_wv8]; exact HF.out.up hb) (by rw [← bl_wv8]; exact (HU.out.up hb).rd) hsl
          have HQY := Lib.hid hqy
          clear hsl hqy
          have cS : wr.cell? ⟨w.heap.size, 2, none⟩ = some (.slice (some ⟨b3, o3, none⟩) ls cs) := by rw [HZr.out.cell]; rfl
          have hbb := bdr (bal (brf wr) (.cells #[.int .i64 4, .slice uA ul uc] 46))
          have cB : ((wr.alloc (.cells #[.int .i64 4, .slice uA ul uc] 46)).drew).cell? ⟨wr.heap.size, 1, none⟩ = some (.slice uA ul uc) := by rw [(Blk.drew (Blk.fresh wr 46 #[.int .i64 4, .slice uA ul uc])).cell]; rfl
          have cS2 := cell_up cS hbb
          have cF2 := cell_up f1 hbb
          have HST := Lib.hid (And.intro hbb (And.intro cS2 (And.intro cF2 cB)))
          clear hbb cB cS2 cF2 cS
          go_wp2_with fail
          have hge : decide ((ls : Int) ≤ (q : Int)) = false := decide_eq_false (by omega)
          have hge2 : ¬ (ls : Int) ≤ (q : Int) := by omega
          refine Can.wp_region_can (fun w' => Below wr.heap.size wr w' ∧ w'.cell? ⟨w.heap.size, 2, none⟩ = some (.slice (some ⟨b3, o3, none⟩) ls cs) ∧ w'.cell? ⟨b3, o3 + q, none⟩ = some (.slice uA2 ul2 uc2) ∧ w'.cell? ⟨wr.heap.size, 1, none⟩ = some (.slice uA ul uc)) 999 [0, 1, 2, 3, 4, 5, 6, 7, 8, 9, 10, 11, 12, 13, 14, 15] (by kernel_rfl) (by kernel_rfl) (fun _ _ d _ _ h => by cases d <;> exact h) HST.out (fun hHeld => ?_)
          repeat (first | (refine Can.can_pure (v := ?_) rfl rfl (Or.inl ⟨by rfl, ?_⟩) ?_; rotate_left; (focus ((intro w hSw); (try dsimp only at hSw); go_simp; (try with_reducible rfl))); (try simp only [Act.put, List.getElem_toArray, List.getElem_cons_succ, List.getElem_cons_zero, List.setIfInBounds_toArray, List.set_cons_zero, List.set_cons_succ])) | (refine Can.can_pure (v := undef) rfl rfl (Or.inr ⟨by rfl, rfl⟩) ?_; (try simp only [Act.put, List.getElem_toArray, List.getElem_cons_succ, List.getElem_cons_zero, List.setIfInBounds_toArray, List.set_cons_zero, List.set_cons_succ])))
          refine Can.can_eff rfl rfl (by rfl) (fun K hK => ?_)
          go_simp
          refine (HQY.out _ hHeld.1).mono ?_
          rintro e w5 ⟨rfl, hb5⟩
          refine hK.out _ _ ⟨bup hHeld.1 hb5, cell_up hHeld.2.1 hb5, cell_up hHeld.2.2.1 hb5, cell_up hHeld.2.2.2 hb5⟩ (fun hHeld2 => ?_)
          clear hK K
          (try simp only [Act.put, List.getElem_toArray, List.getElem_cons_succ, List.getElem_cons_zero, List.setIfInBounds_toArray, List.set_cons_zero, List.set_cons_succ])
          repeat (first | (refine Can.can_pure (v := ?_) rfl rfl (Or.inl ⟨by rfl, ?_⟩) ?_; rotate_left; (focus ((intro w hSw); (try dsimp only at hSw); go_simp; (try with_reducible rfl))); (try simp only [Act.put, List.getElem_toArray, List.getElem_cons_succ, List.getElem_cons_zero, List.setIfInBounds_toArray, List.set_cons_zero, List.set_cons_succ])) | (refine Can.can_pure (v := undef) rfl rfl (Or.inr ⟨by rfl, rfl⟩) ?_; (try simp only [Act.put, List.getElem_toArray, List.getElem_cons_succ, List.getElem_cons_zero, List.setIfInBounds_toArray, List.set_cons_zero, List.set_cons_succ])))
          refine Can.can_done ?_
          have HB9 := Lib.hid (bup HB.out hHeld2.1)
          clear hHeld hHeld2 hb5 HST HB HZr d1 d2 f1
          go_wp2_with fail
          go_roundw
          case rel => exact ⟨i + 1, q + 1, hlt, by go_num, by go_num, HQ2, HB9⟩
          case measure => simp [intOf]; omega
        · have h4i : ¬ (md : Int) = 4 := by omega
          have HQ2 : Hid (q = (byteTs (sg.take (i + 1))).length) := Lib.hid (by rw [byteTs_taken sg i s HSI.out (by rw [← HMD.out]; exact h4)]; exact HQ.out)
          have HB3 := Lib.hid (bal HB.out (.cells #[.int .i64 (md : Int), .slice uA ul uc] 46))
          clear HB HZr
          go_wp2_with fail
          go_roundw
          case rel => exact ⟨i + 1, q, hlt, rfl, by go_num, HQ2, HB3⟩
          case measure => simp [intOf]; omega
      · obtain rfl : i = sg.length := by omega
        have hls : q = ls := by
          obtain ⟨A3, c3, hv3, -⟩ := HS2.out.cells
          injection hv3 with e1 e2 e3
          rw [e2, HQ.out, List.take_length]
        subst hls
        have cS : wr.cell? ⟨w.heap.size, 2, none⟩ = some (.slice As q cs) := by rw [HZr.out.cell]; rfl
        have HB9 := Lib.hid (bup HB2.out HB.out)
        go_wp2_with fail
        go_ret
        exact ⟨rfl, HB9.out⟩
  · rw [HA.out] at hf
    cases hf
end Go.Proofs.Ytjkfkkenaiodoaa
