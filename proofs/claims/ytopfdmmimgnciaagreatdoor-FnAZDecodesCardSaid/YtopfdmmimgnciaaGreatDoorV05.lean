/-
  WALKS: the writer of bits: bytes as they are, where they lie below the writer.
-/
import Derived.Test.YtopfdmmimgnciaaGreatDoorV04
namespace Go.Proofs.YtopfdmmimgnciaaGreatDoor
open Go.RowKit

theorem rdb_byte {w : World} {B : Nat} {v : Value} {l : List UInt8} (h : Rd w B v (bl l)) (h0 : 0 < l.length) : ∃ b o cap, v = .slice (some ⟨b, o, none⟩) l.length cap ∧ l.length ≤ cap ∧ cap ≤ maxLen ∧ ∀ i (hi : i < l.length), w.cell? ⟨b, o + i, none⟩ = some (.int .u8 (l[i].toNat : Int)) := by
  obtain ⟨A, cap, hv, h1, h2, h3⟩ := h
  rw [bl_len] at *
  obtain ⟨b, o, rfl, hh, hc⟩ := h3 h0
  exact ⟨b, o, cap, hv, h1, h2, fun i hi => hc i _ (bl_at l i hi)⟩
theorem rdb_cell {w : World} {B b o n cap : Nat} {l : List UInt8} (h : Rd w B (.slice (some ⟨b, o, none⟩) n cap) (bl l)) (i : Nat) (hi : i < l.length) : w.cell? ⟨b, o + i, none⟩ = some (.int .u8 (l[i].toNat : Int)) := by
  obtain ⟨b', o', cap', hv, _, _, hc⟩ := rdb_byte h (by omega)
  injection hv with h1 _ _
  injection h1 with h1
  injection h1 with h1 h2 _
  subst h1 h2
  exact hc i hi
set_option maxRecDepth 100000 in
theorem bytesB_no (p m N cap : Nat) (A : Option Addr) (w : World) (cM : w.cell? ⟨p, 2, none⟩ = some (.int .i64 m)) (hm : N = 0 ∨ 2 < m) (hN : N ≤ 100) (hm5 : m < 5) :
    Calls Tryz.prog 35 #[.pointer (some ⟨p, 0, none⟩), .slice A N cap] w fun e w' => e = .returned (.tuple #[]) ∧ w' = w := by
  by_cases h0 : N = 0
  · subst h0
    go_enter Tryz.func35, Tryz.ntmps35
    go_wp2
    go_returns
    exact ⟨rfl, rfl⟩
  · have hm2 : 2 < m := by omega
    clear hm
    go_enter Tryz.func35, Tryz.ntmps35
    go_wp2
    go_returns
    exact ⟨rfl, rfl⟩
set_option maxRecDepth 100000 in
set_option maxHeartbeats 4000000 in
theorem bytesB_yes (p base n N : Nat) (bs : List Bool) (tx : List UInt8) (m B : Nat) (v : Value) (l : List UInt8) (w : World) (h : WrAt w p base bs (ofL tx) m n) (hv : Rd w B v (bl l)) (hN : l.length = N) (h0 : 0 < N) (hl : N ≤ 100) (hm : m ≤ 2) (hn : n ≤ 90000) (ht : tx.length ≤ 90000) (hB : B ≤ p) (hbs : base ≤ w.heap.size) :
    Calls Tryz.prog 35 #[.pointer (some ⟨p, 0, none⟩), v] w fun e w' => e = .returned (.tuple #[]) ∧ WrAt w' p base (bs ++ (headL N ++ byteBits (low7 l))) (ofL (tx ++ low7 l)) m (n + (headL N).length + 8 * N) ∧ Below B w w' ∧ w.heap.size ≤ w'.heap.size ∧ KeepT w w' := by
  obtain ⟨b, o, cap, rfl, hcap1, hcap2, -⟩ := rdb_byte hv (by omega)
  unfold maxLen at hcap2
  have HV := Lib.hid hv; clear hv
  have HWR := Lib.hid h
  obtain ⟨bv0, hb1, -⟩ := h.own
  have cM : w.cell? ⟨p, 2, none⟩ = some (.int .i64 m) := by rw [hb1.cell]; rfl
  clear h hb1
  have HN := Lib.hid hN
  rw [hN] at hcap1 ⊢
  clear hN
  have e0 : ((N : Int) == 0) = false := by simp; omega
  have e2 : ¬ (2 : Int) < (m : Int) := by omega
  by_cases h32 : N < 32
  · have HH : Hid (headL N = putL 31 5 ++ putL N 5) := Lib.hid (by unfold headL; rw [if_pos h32])
    go_enter Tryz.func35, Tryz.ntmps35
    go_wp2_with fail
    refine (put_any p base 31 5 n bs (ofL tx) m B _ HWR.out (by decide) (by decide) (by omega) hB hbs).mono ?_
    rintro e w1 ⟨rfl, hw1, hb1, hs1, hk1⟩
    have HW1 := Lib.hid hw1
    have HK1 := Lib.hid (And.intro hb1 (And.intro hs1 hk1)); clear hw1 hb1 hs1 hk1 HWR
    go_wp2_with fail
    refine (put_any p base N 5 _ _ (ofL tx) m B _ HW1.out (by omega) (by decide) (by omega) hB (Nat.le_trans hbs HK1.out.2.1)).mono ?_
    rintro e w2 ⟨rfl, hw2, hb2, hs2, hk2⟩
    have HW2 := Lib.hid hw2
    have HK2 := Lib.hid (And.intro (HK1.out.1.trans hb2) (And.intro (Nat.le_trans HK1.out.2.1 hs2) (HK1.out.2.2.trans hk2))); clear hw2 hb2 hs2 hk2 HW1 HK1
    clear e0 e2 cM
    go_wp2_with fail
    go_loopw [4] (fun iv wr => ∃ (i n2 : Nat), i ≤ N ∧ iv = .int .i64 i ∧ n2 ≤ n + 30 + 8 * i ∧ Hid (n2 = n + (headL N).length + 8 * i) ∧ Hid (WrAt wr p base (bs ++ (headL N ++ byteBits (low7 (l.take i)))) (ofL (tx ++ low7 (l.take i))) m n2) ∧ Hid (Below B w wr ∧ w.heap.size ≤ wr.heap.size ∧ KeepT w wr)) (fun iv _ => N - (intOf iv).toNat)
    case atStart => exact ⟨0, n + 5 + 5, Nat.zero_le _, rfl, by omega, Lib.hid (by rw [HH.out]; simp only [List.length_append, putL_len]), Lib.hid (by rw [HH.out, List.take_zero]; simpa [low7, byteBits] using HW2.out), HK2⟩
    case round =>
      clear HW2 HK2 HH
      obtain ⟨i, n2, hi, rfl, hn2, HN2, HWR, HK⟩ := hrel
      by_cases hlt : i < N
      · have hil : i < l.length := by rw [HN.out]; exact hlt
        have hV := HV.out.below HK.out.1
        have cB := rdb_cell hV i hil
        have hts : l.take (i + 1) = l.take i ++ [l[i]] := List.take_succ_eq_append_getElem hil
        have HL1 : Hid (low7 (l.take (i + 1)) = low7 (l.take i) ++ [UInt8.ofNat (l[i].toNat % 128)]) := Lib.hid (by rw [hts, low7_snoc])
        have htl : (low7 (l.take i)).length ≤ i := by rw [low7_len, List.length_take]; omega
        have hx := l[i].toNat_lt
        obtain ⟨x, hx2⟩ : ∃ x, x = l[i].toNat := ⟨_, rfl⟩
        rw [← hx2] at cB HL1 hx
        have HX := Lib.hid hx2
        clear hx2 hts
        have HV2 := Lib.hid hV; clear hV
        obtain ⟨y, hy⟩ : ∃ y, y = x % 128 := ⟨_, rfl⟩
        rw [← hy] at HL1
        have hy1 : y < 128 := by omega
        have ey : Int.tmod (x : Int) 128 = (y : Int) := by rw [Int.tmod_eq_emod_of_nonneg (by omega), hy]; simp
        clear hy
        obtain ⟨tt, htt⟩ : ∃ t, t = low7 (l.take i) := ⟨_, rfl⟩
        rw [← htt] at HL1 htl
        have HTT := Lib.hid htt
        rw [← htt] at HWR
        clear htt
        go_wp2_with fail
        refine (put_any p base y 8 n2 _ _ m B _ HWR.out (by omega) (by decide) (by omega) hB (Nat.le_trans hbs HK.out.2.1)).mono ?_
        rintro e w3 ⟨rfl, hw3, hb3, hs3, hk3⟩
        have hV := HV2.out.below hb3
        have cB3 : w3.cell? ⟨b, o + i, none⟩ = some (.int .u8 (x : Int)) := by
          have := rdb_cell hV i hil
          rw [HX.out]; exact this
        obtain ⟨v3, hb4, ho4⟩ := hw3.own
        have cT3 : w3.cell? ⟨p, 1, none⟩ = some (.string (ofL (tx ++ tt))) := by rw [hb4.cell]; rfl
        have fT3 := hb4.frozen 1
        have hfr : ∀ o, (w3.alloc o).frozen? ⟨p, 1, none⟩ = false := fun o => (hb4.alloc o).frozen 1
        have hct : ∀ o, (w3.alloc o).cell? ⟨p, 1, none⟩ = some (.string (ofL (tx ++ tt))) := fun o => by rw [(hb4.alloc o).cell]; rfl
        have hcb : ∀ q, (w3.alloc q).cell? ⟨b, o + i, none⟩ = some (.int .u8 (x : Int)) := fun q => cell_up cB3 (bal (brf _) _)
        have hp3 := hb4.lt
        have HB4 := Lib.hid (And.intro hb4 (And.intro ho4 hw3.len))
        have hlo := hw3.lo
        have HK3 := Lib.hid (And.intro (HK.out.1.trans hb3) (And.intro (Nat.le_trans HK.out.2.1 hs3) (HK.out.2.2.trans hk3)))
        have hcv := fun wq => conv_one Tryz.prog 22 5 9 Tryz.underlying22 Tryz.underlying5 Tryz.underlying9 w3.heap.size y (by omega) wq
        have hsz : ¬ 9223372036854775807 < (ofL (tx ++ tt)).size + (ofL [UInt8.ofNat y]).size := by rw [ofL_size, ofL_size, List.length_append, List.length_singleton]; omega
        clear hw3 hb3 hs3 hk3 hV hb4 ho4 HWR HK cB HV2
        go_wp2_with fail
        refine Can3.wp_region_can [11] (fun w' => w'.cell? ⟨b, o + i, none⟩ = some (.int .u8 (x : Int)) ∧ w'.cell? ⟨p, 1, none⟩ = some (.string (ofL (tx ++ tt))) ∧ w'.frozen? ⟨p, 1, none⟩ = false) 15 [0, 1, 2, 3, 4, 5, 6, 7, 8, 9, 10, 11, 12, 13, 14, 15] (by kernel_rfl) (by kernel_rfl) (fun _ _ d _ _ h => by cases d <;> exact h) ⟨cB3, cT3, fT3⟩ (fun hHeld => ?_)
        repeat (refine Can3.can_pure (v := ?_) rfl rfl rfl (Or.inl ⟨by rfl, ?_⟩) ?_; rotate_left; (focus ((intro w hSw; (try dsimp only at hSw); go_simp; (try with_reducible rfl)))); (try simp only [Act.put, List.getElem_toArray, List.getElem_cons_succ, List.getElem_cons_zero, List.setIfInBounds_toArray, List.set_cons_zero, List.set_cons_succ]))
        refine Can3.can_eff rfl rfl (by rfl) (fun K hK => ?_)
        go_simp
        refine hK.out _ _ ⟨hcb _, hct _, hfr _⟩ (fun hHeld1 => ?_)
        clear hK K
        (try simp only [Act.put, List.getElem_toArray, List.getElem_cons_succ, List.getElem_cons_zero, List.setIfInBounds_toArray, List.set_cons_zero, List.set_cons_succ])
        have hcv1 := hcv _ (show (w3.alloc (Obj.cells #[Value.int IntKind.u8 (y : Int)] 5)).drew.cell? ⟨w3.heap.size, 0, none⟩ = some (.int .u8 (y : Int)) by simp)
        clear hHeld hcv
        refine Can3.can_eff rfl rfl (by rfl) (fun K hK => ?_)
        go_simp
        refine hK.out _ _ hHeld1 (fun hHeld2 => ?_)
        clear hK K
        (try simp only [Act.put, List.getElem_toArray, List.getElem_cons_succ, List.getElem_cons_zero, List.setIfInBounds_toArray, List.set_cons_zero, List.set_cons_succ])
        repeat (refine Can3.can_pure (v := ?_) rfl rfl rfl (Or.inl ⟨by rfl, ?_⟩) ?_; rotate_left; (focus ((intro w hSw; (try dsimp only at hSw); go_simp; (try with_reducible rfl)))); (try simp only [Act.put, List.getElem_toArray, List.getElem_cons_succ, List.getElem_cons_zero, List.setIfInBounds_toArray, List.set_cons_zero, List.set_cons_succ]))
        have f1 := hHeld2.2.2
        have c3 := hHeld2.2.1
        refine Can3.can_tail rfl rfl (by rfl) (fun K hK => ?_)
        go_simp
        refine hK.out _ _ ?_
        clear hK K
        clear hHeld1 hHeld2 f1 c3 hcv1 cB3 cT3 fT3 hcb hct hfr hsz
        obtain ⟨tt2, htt2⟩ : ∃ t, t = low7 (l.take (i + 1)) := ⟨_, rfl⟩
        rw [← htt2] at HL1
        have HTT2 := Lib.hid htt2; clear htt2
        go_wp2
        go_roundw
        case rel =>
          have hq := wr_text (tx' := ofL (tx ++ tt) ++ ofL [UInt8.ofNat y]) HB4.out.1 HB4.out.2.1 HB4.out.2.2 hlo HK3.out.1 HK3.out.2.1 HK3.out.2.2 hB (Obj.cells #[Value.int IntKind.u8 (y : Int)] 5)
          refine ⟨i + 1, n2 + 8, by omega, by go_num, by omega, Lib.hid (by rw [HN2.out]; omega), Lib.hid ?_, Lib.hid hq.2⟩
          rw [← HTT2.out, HL1.out, byteBits_snoc, show (UInt8.ofNat y).toNat = y by simp; omega]
          have h1 := hq.1
          have e9 : ofL (tx ++ (tt ++ [UInt8.ofNat y])) = ofL (tx ++ tt) ++ ofL [UInt8.ofNat y] := by rw [ofL_append, List.append_assoc]
          rw [e9]
          simpa only [List.append_assoc] using h1
        case measure => simp [intOf] <;> omega
      · obtain rfl : i = N := by omega
        have hfull : l.take i = l := List.take_of_length_le (by rw [HN.out]; exact Nat.le_refl _)
        rw [hfull] at HWR
        clear hfull
        go_wp2
        refine bodyPost_end (results_none rfl _ _ _) rfl ?_
        exact ⟨rfl, by have h1 := HWR.out; rw [HN2.out] at h1; exact h1, HK.out⟩
  · have HH : Hid (headL N = putL 31 5 ++ (putL 0 5 ++ putL (N - 31) 11)) := Lib.hid (by unfold headL; rw [if_neg h32])
    have e3 : (N : Int) - 31 = ((N - 31 : Nat) : Int) := by omega
    go_enter Tryz.func35, Tryz.ntmps35
    go_wp2_with fail
    refine (put_any p base 31 5 n bs (ofL tx) m B _ HWR.out (by decide) (by decide) (by omega) hB hbs).mono ?_
    rintro e w1 ⟨rfl, hw1, hb1, hs1, hk1⟩
    have HW1 := Lib.hid hw1
    have HK1 := Lib.hid (And.intro hb1 (And.intro hs1 hk1)); clear hw1 hb1 hs1 hk1 HWR
    go_wp2_with fail
    refine (put_any p base 0 5 _ _ (ofL tx) m B _ HW1.out (by decide) (by decide) (by omega) hB (Nat.le_trans hbs HK1.out.2.1)).mono ?_
    rintro e w2 ⟨rfl, hw2, hb2, hs2, hk2⟩
    have HW2 := Lib.hid hw2
    have HK2 := Lib.hid (And.intro (HK1.out.1.trans hb2) (And.intro (Nat.le_trans HK1.out.2.1 hs2) (HK1.out.2.2.trans hk2))); clear hw2 hb2 hs2 hk2 HW1 HK1
    go_wp2_with fail
    refine (put_any p base (N - 31) 11 _ _ (ofL tx) m B _ HW2.out (by omega) (by decide) (by omega) hB (Nat.le_trans hbs HK2.out.2.1)).mono ?_
    rintro e w3 ⟨rfl, hw3, hb3, hs3, hk3⟩
    have HW3 := Lib.hid hw3
    have HK3 := Lib.hid (And.intro (HK2.out.1.trans hb3) (And.intro (Nat.le_trans HK2.out.2.1 hs3) (HK2.out.2.2.trans hk3))); clear hw3 hb3 hs3 hk3 HW2 HK2
    clear e0 e2 cM e3
    go_wp2_with fail
    go_loopw [4] (fun iv wr => ∃ (i n2 : Nat), i ≤ N ∧ iv = .int .i64 i ∧ n2 ≤ n + 30 + 8 * i ∧ Hid (n2 = n + (headL N).length + 8 * i) ∧ Hid (WrAt wr p base (bs ++ (headL N ++ byteBits (low7 (l.take i)))) (ofL (tx ++ low7 (l.take i))) m n2) ∧ Hid (Below B w wr ∧ w.heap.size ≤ wr.heap.size ∧ KeepT w wr)) (fun iv _ => N - (intOf iv).toNat)
    case atStart => exact ⟨0, n + 5 + 5 + 11, Nat.zero_le _, rfl, by omega, Lib.hid (by rw [HH.out]; simp only [List.length_append, putL_len]), Lib.hid (by rw [HH.out, List.take_zero]; simpa [low7, byteBits] using HW3.out), HK3⟩
    case round =>
      clear HW3 HK3 HH
      obtain ⟨i, n2, hi, rfl, hn2, HN2, HWR, HK⟩ := hrel
      by_cases hlt : i < N
      · have hil : i < l.length := by rw [HN.out]; exact hlt
        have hV := HV.out.below HK.out.1
        have cB := rdb_cell hV i hil
        have hts : l.take (i + 1) = l.take i ++ [l[i]] := List.take_succ_eq_append_getElem hil
        have HL1 : Hid (low7 (l.take (i + 1)) = low7 (l.take i) ++ [UInt8.ofNat (l[i].toNat % 128)]) := Lib.hid (by rw [hts, low7_snoc])
        have htl : (low7 (l.take i)).length ≤ i := by rw [low7_len, List.length_take]; omega
        have hx := l[i].toNat_lt
        obtain ⟨x, hx2⟩ : ∃ x, x = l[i].toNat := ⟨_, rfl⟩
        rw [← hx2] at cB HL1 hx
        have HX := Lib.hid hx2
        clear hx2 hts
        have HV2 := Lib.hid hV; clear hV
        obtain ⟨y, hy⟩ : ∃ y, y = x % 128 := ⟨_, rfl⟩
        rw [← hy] at HL1
        have hy1 : y < 128 := by omega
        have ey : Int.tmod (x : Int) 128 = (y : Int) := by rw [Int.tmod_eq_emod_of_nonneg (by omega), hy]; simp
        clear hy
        obtain ⟨tt, htt⟩ : ∃ t, t = low7 (l.take i) := ⟨_, rfl⟩
        rw [← htt] at HL1 htl
        have HTT := Lib.hid htt
        rw [← htt] at HWR
        clear htt
        go_wp2_with fail
        refine (put_any p base y 8 n2 _ _ m B _ HWR.out (by omega) (by decide) (by omega) hB (Nat.le_trans hbs HK.out.2.1)).mono ?_
        rintro e w3 ⟨rfl, hw3, hb3, hs3, hk3⟩
        have hV := HV2.out.below hb3
        have cB3 : w3.cell? ⟨b, o + i, none⟩ = some (.int .u8 (x : Int)) := by
          have := rdb_cell hV i hil
          rw [HX.out]; exact this
        obtain ⟨v3, hb4, ho4⟩ := hw3.own
        have cT3 : w3.cell? ⟨p, 1, none⟩ = some (.string (ofL (tx ++ tt))) := by rw [hb4.cell]; rfl
        have fT3 := hb4.frozen 1
        have hfr : ∀ o, (w3.alloc o).frozen? ⟨p, 1, none⟩ = false := fun o => (hb4.alloc o).frozen 1
        have hct : ∀ o, (w3.alloc o).cell? ⟨p, 1, none⟩ = some (.string (ofL (tx ++ tt))) := fun o => by rw [(hb4.alloc o).cell]; rfl
        have hcb : ∀ q, (w3.alloc q).cell? ⟨b, o + i, none⟩ = some (.int .u8 (x : Int)) := fun q => cell_up cB3 (bal (brf _) _)
        have hp3 := hb4.lt
        have HB4 := Lib.hid (And.intro hb4 (And.intro ho4 hw3.len))
        have hlo := hw3.lo
        have HK3 := Lib.hid (And.intro (HK.out.1.trans hb3) (And.intro (Nat.le_trans HK.out.2.1 hs3) (HK.out.2.2.trans hk3)))
        have hcv := fun wq => conv_one Tryz.prog 22 5 9 Tryz.underlying22 Tryz.underlying5 Tryz.underlying9 w3.heap.size y (by omega) wq
        have hsz : ¬ 9223372036854775807 < (ofL (tx ++ tt)).size + (ofL [UInt8.ofNat y]).size := by rw [ofL_size, ofL_size, List.length_append, List.length_singleton]; omega
        clear hw3 hb3 hs3 hk3 hV hb4 ho4 HWR HK cB HV2
        go_wp2_with fail
        refine Can3.wp_region_can [11] (fun w' => w'.cell? ⟨b, o + i, none⟩ = some (.int .u8 (x : Int)) ∧ w'.cell? ⟨p, 1, none⟩ = some (.string (ofL (tx ++ tt))) ∧ w'.frozen? ⟨p, 1, none⟩ = false) 15 [0, 1, 2, 3, 4, 5, 6, 7, 8, 9, 10, 11, 12, 13, 14, 15] (by kernel_rfl) (by kernel_rfl) (fun _ _ d _ _ h => by cases d <;> exact h) ⟨cB3, cT3, fT3⟩ (fun hHeld => ?_)
        repeat (refine Can3.can_pure (v := ?_) rfl rfl rfl (Or.inl ⟨by rfl, ?_⟩) ?_; rotate_left; (focus ((intro w hSw; (try dsimp only at hSw); go_simp; (try with_reducible rfl)))); (try simp only [Act.put, List.getElem_toArray, List.getElem_cons_succ, List.getElem_cons_zero, List.setIfInBounds_toArray, List.set_cons_zero, List.set_cons_succ]))
        refine Can3.can_eff rfl rfl (by rfl) (fun K hK => ?_)
        go_simp
        refine hK.out _ _ ⟨hcb _, hct _, hfr _⟩ (fun hHeld1 => ?_)
        clear hK K
        (try simp only [Act.put, List.getElem_toArray, List.getElem_cons_succ, List.getElem_cons_zero, List.setIfInBounds_toArray, List.set_cons_zero, List.set_cons_succ])
        have hcv1 := hcv _ (show (w3.alloc (Obj.cells #[Value.int IntKind.u8 (y : Int)] 5)).drew.cell? ⟨w3.heap.size, 0, none⟩ = some (.int .u8 (y : Int)) by simp)
        clear hHeld hcv
        refine Can3.can_eff rfl rfl (by rfl) (fun K hK => ?_)
        go_simp
        refine hK.out _ _ hHeld1 (fun hHeld2 => ?_)
        clear hK K
        (try simp only [Act.put, List.getElem_toArray, List.getElem_cons_succ, List.getElem_cons_zero, List.setIfInBounds_toArray, List.set_cons_zero, List.set_cons_succ])
        repeat (refine Can3.can_pure (v := ?_) rfl rfl rfl (Or.inl ⟨by rfl, ?_⟩) ?_; rotate_left; (focus ((intro w hSw; (try dsimp only at hSw); go_simp; (try with_reducible rfl)))); (try simp only [Act.put, List.getElem_toArray, List.getElem_cons_succ, List.getElem_cons_zero, List.setIfInBounds_toArray, List.set_cons_zero, List.set_cons_succ]))
        have f1 := hHeld2.2.2
        have c3 := hHeld2.2.1
        refine Can3.can_tail rfl rfl (by rfl) (fun K hK => ?_)
        go_simp
        refine hK.out _ _ ?_
        clear hK K
        clear hHeld1 hHeld2 f1 c3 hcv1 cB3 cT3 fT3 hcb hct hfr hsz
        obtain ⟨tt2, htt2⟩ : ∃ t, t = low7 (l.take (i + 1)) := ⟨_, rfl⟩
        rw [← htt2] at HL1
        have HTT2 := Lib.hid htt2; clear htt2
        go_wp2
        go_roundw
        case rel =>
          have hq := wr_text (tx' := ofL (tx ++ tt) ++ ofL [UInt8.ofNat y]) HB4.out.1 HB4.out.2.1 HB4.out.2.2 hlo HK3.out.1 HK3.out.2.1 HK3.out.2.2 hB (Obj.cells #[Value.int IntKind.u8 (y : Int)] 5)
          refine ⟨i + 1, n2 + 8, by omega, by go_num, by omega, Lib.hid (by rw [HN2.out]; omega), Lib.hid ?_, Lib.hid hq.2⟩
          rw [← HTT2.out, HL1.out, byteBits_snoc, show (UInt8.ofNat y).toNat = y by simp; omega]
          have h1 := hq.1
          have e9 : ofL (tx ++ (tt ++ [UInt8.ofNat y])) = ofL (tx ++ tt) ++ ofL [UInt8.ofNat y] := by rw [ofL_append, List.append_assoc]
          rw [e9]
          simpa only [List.append_assoc] using h1
        case measure => simp [intOf] <;> omega
      · obtain rfl : i = N := by omega
        have hfull : l.take i = l := List.take_of_length_le (by rw [HN.out]; exact Nat.le_refl _)
        rw [hfull] at HWR
        clear hfull
        go_wp2
        refine bodyPost_end (results_none rfl _ _ _) rfl ?_
        exact ⟨rfl, by have h1 := HWR.out; rw [HN2.out] at h1; exact h1, HK.out⟩
end Go.Proofs.YtopfdmmimgnciaaGreatDoor
