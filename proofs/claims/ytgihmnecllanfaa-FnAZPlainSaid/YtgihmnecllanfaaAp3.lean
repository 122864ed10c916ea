/-
  WALKS: the writer of bits: bytes as they are.
-/
import Derived.Test.YtgihmnecllanfaaAp2
import Derived.Test.YtgihmnecllanfaaCan3
import Derived.Test.YtgihmnecllanfaaSx
namespace Go.Proofs.Ytgihmnecllanfaa
open Go.RowKit

def low7 (l : List UInt8) : List UInt8 := l.map fun b => UInt8.ofNat (b.toNat % 128)
theorem low7_len (l : List UInt8) : (low7 l).length = l.length := by simp [low7]
theorem low7_snoc (l : List UInt8) (b : UInt8) : low7 (l ++ [b]) = low7 l ++ [UInt8.ofNat (b.toNat % 128)] := by simp [low7]
theorem byteBits_snoc (l : List UInt8) (b : UInt8) : byteBits (l ++ [b]) = byteBits l ++ putL b.toNat 8 := by simp [byteBits]
theorem bl_at (l : List UInt8) (i : Nat) (h : i < l.length) : (bl l)[i]? = some (.int .u8 (l[i].toNat : Int)) := by simp [bl, h]
/-- What a slice of bytes holds. -/
theorem rdt_byte {w : World} {v : Value} {l : List UInt8} (h : RdT w 5 v (bl l)) (h0 : 0 < l.length) : ∃ b o cap, v = .slice (some ⟨b, o, none⟩) l.length cap ∧ l.length ≤ cap ∧ cap ≤ maxLen ∧ ∀ i (hi : i < l.length), w.cell? ⟨b, o + i, none⟩ = some (.int .u8 (l[i].toNat : Int)) := by
  obtain ⟨A, cap, hv, h1, h2, h3⟩ := h
  rw [bl_len] at *
  obtain ⟨b, o, cs, fr, rfl, hh, hc⟩ := h3 h0
  exact ⟨b, o, cap, hv, h1, h2, fun i hi => by rw [World.cell?, hh]; simpa using hc i _ (bl_at l i hi)⟩
theorem rdt_cell {w : World} {b o n cap : Nat} {l : List UInt8} (h : RdT w 5 (.slice (some ⟨b, o, none⟩) n cap) (bl l)) (i : Nat) (hi : i < l.length) : w.cell? ⟨b, o + i, none⟩ = some (.int .u8 (l[i].toNat : Int)) := by
  obtain ⟨b', o', cap', hv, _, _, hc⟩ := rdt_byte h (by omega)
  injection hv with h1 _ _
  injection h1 with h1
  injection h1 with h1 h2 _
  subst h1 h2
  exact hc i hi
theorem conv_one (P : Program) (src e dst : TypeId) (hs : P.underlying src = some (.slice e)) (he : P.underlying e = some (.int .u8)) (hd : P.underlying dst = some .string) (H y : Nat) (hy : y < 256) (w : World) (h : w.cell? ⟨H, 0, none⟩ = some (.int .u8 (y : Int))) :
    (convert src dst (.slice (some ⟨H, 0, none⟩) 1 1)).run P w = .ok (.string (ofL [UInt8.ofNat y])) w := by
  refine conv_str w (H + 1) src e dst hs he hd _ _ ⟨_, 1, ?_, ?_, by decide, fun _ => ⟨H, 0, rfl, by omega, fun j u hu => ?_⟩⟩
  · rw [bytesOf_len, ofL_size]; rfl
  · rw [bytesOf_len, ofL_size]; simp
  · rw [bytesOf_ofL] at hu
    have hj : j = 0 := by have := (List.getElem?_eq_some_iff.1 hu).1; rw [bl_len] at this; simp at this; omega
    subst hj
    rw [bl_at _ 0 (by simp)] at hu
    injection hu with hu
    rw [← hu, Nat.zero_add, h]
    congr 2
    show (y : Int) = ((UInt8.ofNat y).toNat : Int)
    simp; omega
theorem wr_text {w w3 : World} {p base B n m : Nat} {bs : List Bool} {tx tx' : ByteArray} {v3 : Value} (hb : Blk w3 p 71 #[v3, .string tx, .int .i64 m]) (ho : w3.ownsRow base 4 1 v3 n (bv bs)) (hl : n = bs.length) (hlo : p < base)
    (h1 : Below B w w3) (h2 : w.heap.size ≤ w3.heap.size) (h3 : KeepT w w3) (hB : B ≤ p) (o : Obj) :
    WrAt ((w3.setCell ⟨p, 1, none⟩ (.string tx')).alloc o).drew p base bs tx' m n ∧ Below B w ((w3.setCell ⟨p, 1, none⟩ (.string tx')).alloc o).drew ∧ w.heap.size ≤ ((w3.setCell ⟨p, 1, none⟩ (.string tx')).alloc o).drew.heap.size ∧ KeepT w ((w3.setCell ⟨p, 1, none⟩ (.string tx')).alloc o).drew := by
  have hs : (w3.setCell ⟨p, 1, none⟩ (.string tx')).heap.size = w3.heap.size := by simp
  have hp := hb.lt
  have hu : Below (w3.setCell ⟨p, 1, none⟩ (.string tx')).heap.size (w3.setCell ⟨p, 1, none⟩ (.string tx')) ((w3.setCell ⟨p, 1, none⟩ (.string tx')).alloc o).drew := bdr (bal (brf _) _)
  refine ⟨⟨⟨v3, (hb.put 1 _).up hu, own_up (own_far ho (p := ⟨p, 1, none⟩) hlo _) hu⟩, hl, hlo⟩, ?_, ?_, ?_⟩
  · exact ((h1.setCell (p := ⟨p, 1, none⟩) hB _).alloc (by rw [hs]; omega) _).drew
  · have := hu.size; omega
  · exact (h3.trans (KeepT.set hb 1 _)).trans (KeepT.below hu)
set_option maxRecDepth 100000 in
set_option maxHeartbeats 4000000 in
theorem bytes_yes (p base n N : Nat) (bs : List Bool) (tx : List UInt8) (m B : Nat) (v : Value) (l : List UInt8) (w : World) (h : WrAt w p base bs (ofL tx) m n) (hv : RdT w 5 v (bl l)) (hN : l.length = N) (h0 : 0 < N) (hl : N ≤ 100) (hm : m ≤ 2) (hn : n ≤ 90000) (ht : tx.length ≤ 90000) (hB : B ≤ p) (hbs : base ≤ w.heap.size) :
    Calls Try.prog 31 #[.pointer (some ⟨p, 0, none⟩), v] w fun e w' => e = .returned (.tuple #[]) ∧ WrAt w' p base (bs ++ (headL N ++ byteBits (low7 l))) (ofL (tx ++ low7 l)) m (n + (headL N).length + 8 * N) ∧ Below B w w' ∧ w.heap.size ≤ w'.heap.size ∧ KeepT w w' := by
  obtain ⟨b, o, cap, rfl, hcap1, hcap2, -⟩ := rdt_byte hv (by omega)
  unfold maxLen at hcap2
  have HV := Lib.hid hv; clear hv
  have HWR := Lib.hid h
  obtain ⟨bv0, hb1, -⟩ := h.own
  have cM : w.cell? ⟨p, 2, none⟩ = some (.int .i64 m) := by rw [hb1.cell]; rfl
  clear h hb1
  have HN := Lib.hid hN
  rw [hN] at hcap1 ⊢
  clear hN
  have e0 : ((N : Int) == 0) = false := by simp; omega
  have e2 : ¬ (2 : Int) < (m : Int) := by omega
  by_cases h32 : N < 32
  · have HH : Hid (headL N = putL 31 5 ++ putL N 5) := Lib.hid (by unfold headL; rw [if_pos h32])
    go_enter Try.func31, Try.ntmps31
    go_wp2_with fail
    refine (put_any p base 31 5 n bs (ofL tx) m B _ HWR.out (by decide) (by decide) (by omega) hB hbs).mono ?_
    rintro e w1 ⟨rfl, hw1, hb1, hs1, hk1⟩
    have HW1 := Lib.hid hw1
    have HK1 := Lib.hid (And.intro hb1 (And.intro hs1 hk1)); clear hw1 hb1 hs1 hk1 HWR
    go_wp2_with fail
    refine (put_any p base N 5 _ _ (ofL tx) m B _ HW1.out (by omega) (by decide) (by omega) hB (Nat.le_trans hbs HK1.out.2.1)).mono ?_
    rintro e w2 ⟨rfl, hw2, hb2, hs2, hk2⟩
    have HW2 := Lib.hid hw2
    have HK2 := Lib.hid (And.intro (HK1.out.1.trans hb2) (And.intro (Nat.le_trans HK1.out.2.1 hs2) (HK1.out.2.2.trans hk2))); clear hw2 hb2 hs2 hk2 HW1 HK1
    clear e0 e2 cM
    go_wp2_with fail
    go_loopw [4] (fun iv wr => ∃ (i n2 : Nat), i ≤ N ∧ iv = .int .i64 i ∧ n2 ≤ n + 30 + 8 * i ∧ Hid (n2 = n + (headL N).length + 8 * i) ∧ Hid (WrAt wr p base (bs ++ (headL N ++ byteBits (low7 (l.take i)))) (ofL (tx ++ low7 (l.take i))) m n2) ∧ Hid (Below B w wr ∧ w.heap.size ≤ wr.heap.size ∧ KeepT w wr)) (fun iv _ => N - (intOf iv).toNat)
    case atStart => exact ⟨0, n + 5 + 5, Nat.zero_le _, rfl, by omega, Lib.hid (by rw [HH.out]; simp only [List.length_append, putL_len]), Lib.hid (by rw [HH.out, List.take_zero]; simpa [low7, byteBits] using HW2.out), HK2⟩
    case round =>
      clear HW2 HK2 HH
      obtain ⟨i, n2, hi, rfl, hn2, HN2, HWR, HK⟩ := hrel
      by_cases hlt : i < N
      · have hil : i < l.length := by rw [HN.out]; exact hlt
        have hV := HK.out.2.2 _ _ _ (by decide) (by decide) HV.out
        have cB := rdt_cell hV i hil
        have hts : l.take (i + 1) = l.take i ++ [l[i]] := List.take_succ_eq_append_getElem hil
        have HL1 : Hid (low7 (l.take (i + 1)) = low7 (l.take i) ++ [UInt8.ofNat (l[i].toNat % 128)]) := Lib.hid (by rw [hts, low7_snoc])
        have htl : (low7 (l.take i)).length ≤ i := by rw [low7_len, List.length_take]; omega
        have hx := l[i].toNat_lt
        obtain ⟨x, hx2⟩ : ∃ x, x = l[i].toNat := ⟨_, rfl⟩
        rw [← hx2] at cB HL1 hx
        have HX := Lib.hid hx2
        clear hx2 hts
        have HV2 := Lib.hid hV; clear hV
        obtain ⟨y, hy⟩ : ∃ y, y = x % 128 := ⟨_, rfl⟩
        rw [← hy] at HL1
        have hy1 : y < 128 := by omega
        have ey : Int.tmod (x : Int) 128 = (y : Int) := by rw [Int.tmod_eq_emod_of_nonneg (by omega), hy]; simp
        clear hy
        obtain ⟨tt, htt⟩ : ∃ t, t = low7 (l.take i) := ⟨_, rfl⟩
        rw [← htt] at HL1 htl
        have HTT := Lib.hid htt
        rw [← htt] at HWR
        clear htt
        go_wp2_with fail
        refine (put_any p base y 8 n2 _ _ m B _ HWR.out (by omega) (by decide) (by omega) hB (Nat.le_trans hbs HK.out.2.1)).mono ?_
        rintro e w3 ⟨rfl, hw3, hb3, hs3, hk3⟩
        have hV := hk3 _ _ _ (by decide) (by decide) HV2.out
        have cB3 : w3.cell? ⟨b, o + i, none⟩ = some (.int .u8 (x : Int)) := by
          have := rdt_cell hV i hil
          rw [HX.out]; exact this
        obtain ⟨v3, hb4, ho4⟩ := hw3.own
        have cT3 : w3.cell? ⟨p, 1, none⟩ = some (.string (ofL (tx ++ tt))) := by rw [hb4.cell]; rfl
        have fT3 := hb4.frozen 1
        have hfr : ∀ o, (w3.alloc o).frozen? ⟨p, 1, none⟩ = false := fun o => (hb4.alloc o).frozen 1
        have hct : ∀ o, (w3.alloc o).cell? ⟨p, 1, none⟩ = some (.string (ofL (tx ++ tt))) := fun o => by rw [(hb4.alloc o).cell]; rfl
        have hcb : ∀ q, (w3.alloc q).cell? ⟨b, o + i, none⟩ = some (.int .u8 (x : Int)) := fun q => cell_up cB3 (bal (brf _) _)
        have hp3 := hb4.lt
        have HB4 := Lib.hid (And.intro hb4 (And.intro ho4 hw3.len))
        have hlo := hw3.lo
        have HK3 := Lib.hid (And.intro (HK.out.1.trans hb3) (And.intro (Nat.le_trans HK.out.2.1 hs3) (HK.out.2.2.trans hk3)))
        have hcv := fun wq => conv_one Try.prog 32 5 9 Try.underlying32 Try.underlying5 Try.underlying9 w3.heap.size y (by omega) wq
        have hsz : ¬ 9223372036854775807 < (ofL (tx ++ tt)).size + (ofL [UInt8.ofNat y]).size := by rw [ofL_size, ofL_size, List.length_append, List.length_singleton]; omega
        clear hw3 hb3 hs3 hk3 hV hb4 ho4 HWR HK cB HV2
        go_wp2_with fail
        refine Can3.wp_region_can [11] (fun w' => w'.cell? ⟨b, o + i, none⟩ = some (.int .u8 (x : Int)) ∧ w'.cell? ⟨p, 1, none⟩ = some (.string (ofL (tx ++ tt))) ∧ w'.frozen? ⟨p, 1, none⟩ = false) 15 [0, 1, 2, 3, 4, 5, 6, 7, 8, 9, 10, 11, 12, 13, 14, 15] (by kernel_rfl) (by kernel_rfl) (fun _ _ d _ _ h => by cases d <;> exact h) ⟨cB3, cT3, fT3⟩ (fun hHeld => ?_)
        repeat (refine Can3.can_pure (v := ?_) rfl rfl rfl (Or.inl ⟨by rfl, ?_⟩) ?_; rotate_left; (focus ((intro w hSw; (try dsimp only at hSw); go_simp; (try with_reducible rfl)))); (try simp only [Act.put, List.getElem_toArray, List.getElem_cons_succ, List.getElem_cons_zero, List.setIfInBounds_toArray, List.set_cons_zero, List.set_cons_succ]))
        refine Can3.can_eff rfl rfl (by rfl) (fun K hK => ?_)
        go_simp
        refine hK.out _ _ ⟨hcb _, hct _, hfr _⟩ (fun hHeld1 => ?_)
        clear hK K
        (try simp only [Act.put, List.getElem_toArray, List.getElem_cons_succ, List.getElem_cons_zero, List.setIfInBounds_toArray, List.set_cons_zero, List.set_cons_succ])
        have hcv1 := hcv _ (show (w3.alloc (Obj.cells #[Value.int IntKind.u8 (y : Int)] 5)).drew.cell? ⟨w3.heap.size, 0, none⟩ = some (.int .u8 (y : Int)) by simp)
        clear hHeld hcv
        refine Can3.can_eff rfl rfl (by rfl) (fun K hK => ?_)
        go_simp
        refine hK.out _ _ hHeld1 (fun hHeld2 => ?_)
        clear hK K
        (try simp only [Act.put, List.getElem_toArray, List.getElem_cons_succ, List.getElem_cons_zero, List.setIfInBounds_toArray, List.set_cons_zero, List.set_cons_succ])
        repeat (refine Can3.can_pure (v := ?_) rfl rfl rfl (Or.inl ⟨by rfl, ?_⟩) ?_; rotate_left; (focus ((intro w hSw; (try dsimp only at hSw); go_simp; (try with_reducible rfl)))); (try simp only [Act.put, List.getElem_toArray, List.getElem_cons_succ, List.getElem_cons_zero, List.setIfInBounds_toArray, List.set_cons_zero, List.set_cons_succ]))
        have f1 := hHeld2.2.2
        have c3 := hHeld2.2.1
        refine Can3.can_tail rfl rfl (by rfl) (fun K hK => ?_)
        go_simp
        refine hK.out _ _ ?_
        clear hK K
        clear hHeld1 hHeld2 f1 c3 hcv1 cB3 cT3 fT3 hcb hct hfr hsz
        obtain ⟨tt2, htt2⟩ : ∃ t, t = low7 (l.take (i + 1)) := ⟨_, rfl⟩
        rw [← htt2] at HL1
        have HTT2 := Lib.hid htt2; clear htt2
        go_wp2
        go_roundw
        case rel =>
          have hq := wr_text (tx' := ofL (tx ++ tt) ++ ofL [UInt8.ofNat y]) HB4.out.1 HB4.out.2.1 HB4.out.2.2 hlo HK3.out.1 HK3.out.2.1 HK3.out.2.2 hB (Obj.cells #[Value.int IntKind.u8 (y : Int)] 5)
          refine ⟨i + 1, n2 + 8, by omega, by go_num, by omega, Lib.hid (by rw [HN2.out]; omega), Lib.hid ?_, Lib.hid hq.2⟩
          rw [← HTT2.out, HL1.out, byteBits_snoc, show (UInt8.ofNat y).toNat = y by simp; omega]
          have h1 := hq.1
          have e9 : ofL (tx ++ (tt ++ [UInt8.ofNat y])) = ofL (tx ++ tt) ++ ofL [UInt8.ofNat y] := by rw [ofL_append, List.append_assoc]
          rw [e9]
          simpa only [List.append_assoc] using h1
        case measure => simp [intOf] <;> omega
      · obtain rfl : i = N := by omega
        have hfull : l.take i = l := List.take_of_length_le (by rw [HN.out]; exact Nat.le_refl _)
        rw [hfull] at HWR
        clear hfull
        go_wp2
        refine bodyPost_end (results_none rfl _ _ _) rfl ?_
        exact ⟨rfl, by have h1 := HWR.out; rw [HN2.out] at h1; exact h1, HK.out⟩
  · have HH : Hid (headL N = putL 31 5 ++ (putL 0 5 ++ putL (N - 31) 11)) := Lib.hid (by unfold headL; rw [if_neg h32])
    have e3 : (N : Int) - 31 = ((N - 31 : Nat) : Int) := by omega
    go_enter Try.func31, Try.ntmps31
    go_wp2_with fail
    refine (put_any p base 31 5 n bs (ofL tx) m B _ HWR.out (by decide) (by decide) (by omega) hB hbs).mono ?_
    rintro e w1 ⟨rfl, hw1, hb1, hs1, hk1⟩
    have HW1 := Lib.hid hw1
    have HK1 := Lib.hid (And.intro hb1 (And.intro hs1 hk1)); clear hw1 hb1 hs1 hk1 HWR
    go_wp2_with fail
    refine (put_any p base 0 5 _ _ (ofL tx) m B _ HW1.out (by decide) (by decide) (by omega) hB (Nat.le_trans hbs HK1.out.2.1)).mono ?_
    rintro e w2 ⟨rfl, hw2, hb2, hs2, hk2⟩
    have HW2 := Lib.hid hw2
    have HK2 := Lib.hid (And.intro (HK1.out.1.trans hb2) (And.intro (Nat.le_trans HK1.out.2.1 hs2) (HK1.out.2.2.trans hk2))); clear hw2 hb2 hs2 hk2 HW1 HK1
    go_wp2_with fail
    refine (put_any p base (N - 31) 11 _ _ (ofL tx) m B _ HW2.out (by omega) (by decide) (by omega) hB (Nat.le_trans hbs HK2.out.2.1)).mono ?_
    rintro e w3 ⟨rfl, hw3, hb3, hs3, hk3⟩
    have HW3 := Lib.hid hw3
    have HK3 := Lib.hid (And.intro (HK2.out.1.trans hb3) (And.intro (Nat.le_trans HK2.out.2.1 hs3) (HK2.out.2.2.trans hk3))); clear hw3 hb3 hs3 hk3 HW2 HK2
    clear e0 e2 cM e3
    go_wp2_with fail
    go_loopw [4] (fun iv wr => ∃ (i n2 : Nat), i ≤ N ∧ iv = .int .i64 i ∧ n2 ≤ n + 30 + 8 * i ∧ Hid (n2 = n + (headL N).length + 8 * i) ∧ Hid (WrAt wr p base (bs ++ (headL N ++ byteBits (low7 (l.take i)))) (ofL (tx ++ low7 (l.take i))) m n2) ∧ Hid (Below B w wr ∧ w.heap.size ≤ wr.heap.size ∧ KeepT w wr)) (fun iv _ => N - (intOf iv).toNat)
    case atStart => exact ⟨0, n + 5 + 5 + 11, Nat.zero_le _, rfl, by omega, Lib.hid (by rw [HH.out]; simp only [List.length_append, putL_len]), Lib.hid (by rw [HH.out, List.take_zero]; simpa [low7, byteBits] using HW3.out), HK3⟩
    case round =>
      clear HW3 HK3 HH
      obtain ⟨i, n2, hi, rfl, hn2, HN2, HWR, HK⟩ := hrel
      by_cases hlt : i < N
      · have hil : i < l.length := by rw [HN.out]; exact hlt
        have hV := HK.out.2.2 _ _ _ (by decide) (by decide) HV.out
        have cB := rdt_cell hV i hil
        have hts : l.take (i + 1) = l.take i ++ [l[i]] := List.take_succ_eq_append_getElem hil
        have HL1 : Hid (low7 (l.take (i + 1)) = low7 (l.take i) ++ [UInt8.ofNat (l[i].toNat % 128)]) := Lib.hid (by rw [hts, low7_snoc])
        have htl : (low7 (l.take i)).length ≤ i := by rw [low7_len, List.length_take]; omega
        have hx := l[i].toNat_lt
        obtain ⟨x, hx2⟩ : ∃ x, x = l[i].toNat := ⟨_, rfl⟩
        rw [← hx2] at cB HL1 hx
        have HX := Lib.hid hx2
        clear hx2 hts
        have HV2 := Lib.hid hV; clear hV
        obtain ⟨y, hy⟩ : ∃ y, y = x % 128 := ⟨_, rfl⟩
        rw [← hy] at HL1
        have hy1 : y < 128 := by omega
        have ey : Int.tmod (x : Int) 128 = (y : Int) := by rw [Int.tmod_eq_emod_of_nonneg (by omega), hy]; simp
        clear hy
        obtain ⟨tt, htt⟩ : ∃ t, t = low7 (l.take i) := ⟨_, rfl⟩
        rw [← htt] at HL1 htl
        have HTT := Lib.hid htt
        rw [← htt] at HWR
        clear htt
        go_wp2_with fail
        refine (put_any p base y 8 n2 _ _ m B _ HWR.out (by omega) (by decide) (by omega) hB (Nat.le_trans hbs HK.out.2.1)).mono ?_
        rintro e w3 ⟨rfl, hw3, hb3, hs3, hk3⟩
        have hV := hk3 _ _ _ (by decide) (by decide) HV2.out
        have cB3 : w3.cell? ⟨b, o + i, none⟩ = some (.int .u8 (x : Int)) := by
          have := rdt_cell hV i hil
          rw [HX.out]; exact this
        obtain ⟨v3, hb4, ho4⟩ := hw3.own
        have cT3 : w3.cell? ⟨p, 1, none⟩ = some (.string (ofL (tx ++ tt))) := by rw [hb4.cell]; rfl
        have fT3 := hb4.frozen 1
        have hfr : ∀ o, (w3.alloc o).frozen? ⟨p, 1, none⟩ = false := fun o => (hb4.alloc o).frozen 1
        have hct : ∀ o, (w3.alloc o).cell? ⟨p, 1, none⟩ = some (.string (ofL (tx ++ tt))) := fun o => by rw [(hb4.alloc o).cell]; rfl
        have hcb : ∀ q, (w3.alloc q).cell? ⟨b, o + i, none⟩ = some (.int .u8 (x : Int)) := fun q => cell_up cB3 (bal (brf _) _)
        have hp3 := hb4.lt
        have HB4 := Lib.hid (And.intro hb4 (And.intro ho4 hw3.len))
        have hlo := hw3.lo
        have HK3 := Lib.hid (And.intro (HK.out.1.trans hb3) (And.intro (Nat.le_trans HK.out.2.1 hs3) (HK.out.2.2.trans hk3)))
        have hcv := fun wq => conv_one Try.prog 32 5 9 Try.underlying32 Try.underlying5 Try.underlying9 w3.heap.size y (by omega) wq
        have hsz : ¬ 9223372036854775807 < (ofL (tx ++ tt)).size + (ofL [UInt8.ofNat y]).size := by rw [ofL_size, ofL_size, List.length_append, List.length_singleton]; omega
        clear hw3 hb3 hs3 hk3 hV hb4 ho4 HWR HK cB HV2
        go_wp2_with fail
        refine Can3.wp_region_can [11] (fun w' => w'.cell? ⟨b, o + i, none⟩ = some (.int .u8 (x : Int)) ∧ w'.cell? ⟨p, 1, none⟩ = some (.string (ofL (tx ++ tt))) ∧ w'.frozen? ⟨p, 1, none⟩ = false) 15 [0, 1, 2, 3, 4, 5, 6, 7, 8, 9, 10, 11, 12, 13, 14, 15] (by kernel_rfl) (by kernel_rfl) (fun _ _ d _ _ h => by cases d <;> exact h) ⟨cB3, cT3, fT3⟩ (fun hHeld => ?_)
        repeat (refine Can3.can_pure (v := ?_) rfl rfl rfl (Or.inl ⟨by rfl, ?_⟩) ?_; rotate_left; (focus ((intro w hSw; (try dsimp only at hSw); go_simp; (try with_reducible rfl)))); (try simp only [Act.put, List.getElem_toArray, List.getElem_cons_succ, List.getElem_cons_zero, List.setIfInBounds_toArray, List.set_cons_zero, List.set_cons_succ]))
        refine Can3.can_eff rfl rfl (by rfl) (fun K hK => ?_)
        go_simp
        refine hK.out _ _ ⟨hcb _, hct _, hfr _⟩ (fun hHeld1 => ?_)
        clear hK K
        (try simp only [Act.put, List.getElem_toArray, List.getElem_cons_succ, List.getElem_cons_zero, List.setIfInBounds_toArray, List.set_cons_zero, List.set_cons_succ])
        have hcv1 := hcv _ (show (w3.alloc (Obj.cells #[Value.int IntKind.u8 (y : Int)] 5)).drew.cell? ⟨w3.heap.size, 0, none⟩ = some (.int .u8 (y : Int)) by simp)
        clear hHeld hcv
        refine Can3.can_eff rfl rfl (by rfl) (fun K hK => ?_)
        go_simp
        refine hK.out _ _ hHeld1 (fun hHeld2 => ?_)
        clear hK K
        (try simp only [Act.put, List.getElem_toArray, List.getElem_cons_succ, List.getElem_cons_zero, List.setIfInBounds_toArray, List.set_cons_zero, List.set_cons_succ])
        repeat (refine Can3.can_pure (v := ?_) rfl rfl rfl (Or.inl ⟨by rfl, ?_⟩) ?_; rotate_left; (focus ((intro w hSw; (try dsimp only at hSw); go_simp; (try with_reducible rfl)))); (try simp only [Act.put, List.getElem_toArray, List.getElem_cons_succ, List.getElem_cons_zero, List.setIfInBounds_toArray, List.set_cons_zero, List.set_cons_succ]))
        have f1 := hHeld2.2.2
        have c3 := hHeld2.2.1
        refine Can3.can_tail rfl rfl (by rfl) (fun K hK => ?_)
        go_simp
        refine hK.out _ _ ?_
        clear hK K
        clear hHeld1 hHeld2 f1 c3 hcv1 cB3 cT3 fT3 hcb hct hfr hsz
        obtain ⟨tt2, htt2⟩ : ∃ t, t = low7 (l.take (i + 1)) := ⟨_, rfl⟩
        rw [← htt2] at HL1
        have HTT2 := Lib.hid htt2; clear htt2
        go_wp2
        go_roundw
        case rel =>
          have hq := wr_text (tx' := ofL (tx ++ tt) ++ ofL [UInt8.ofNat y]) HB4.out.1 HB4.out.2.1 HB4.out.2.2 hlo HK3.out.1 HK3.out.2.1 HK3.out.2.2 hB (Obj.cells #[Value.int IntKind.u8 (y : Int)] 5)
          refine ⟨i + 1, n2 + 8, by omega, by go_num, by omega, Lib.hid (by rw [HN2.out]; omega), Lib.hid ?_, Lib.hid hq.2⟩
          rw [← HTT2.out, HL1.out, byteBits_snoc, show (UInt8.ofNat y).toNat = y by simp; omega]
          have h1 := hq.1
          have e9 : ofL (tx ++ (tt ++ [UInt8.ofNat y])) = ofL (tx ++ tt) ++ ofL [UInt8.ofNat y] := by rw [ofL_append, List.append_assoc]
          rw [e9]
          simpa only [List.append_assoc] using h1
        case measure => simp [intOf] <;> omega
      · obtain rfl : i = N := by omega
        have hfull : l.take i = l := List.take_of_length_le (by rw [HN.out]; exact Nat.le_refl _)
        rw [hfull] at HWR
        clear hfull
        go_wp2
        refine bodyPost_end (results_none rfl _ _ _) rfl ?_
        exact ⟨rfl, by have h1 := HWR.out; rw [HN2.out] at h1; exact h1, HK.out⟩
end Go.Proofs.Ytgihmnecllanfaa
