/-
  WALKS: spec.AZWordBits, AZUnstuffed.
-/
import Derived.Test.YtpjaehljgpopmaaZs2
import Derived.Test.YtpjaehljgpopmaaZs3
namespace Go.Proofs.Ytpjaehljgpopmaa
open Go.RowKit

theorem putL_app_take (width : Nat) (ws : List Nat) (i : Nat) (hi : i < ws.length) : wbits width (ws.take i) ++ putL (ws.getD i 0) width = wbits width (ws.take (i + 1)) := by
  rw [take_one ws i hi, wbits_snoc]
theorem unW_app_take (width : Nat) (ws : List Nat) (i : Nat) (hi : i < ws.length) : unL width (ws.take i) ++ unW width (ws.getD i 0) = unL width (ws.take (i + 1)) := by
  rw [take_one ws i hi, unL_snoc]
/-- A number of a list that is kept. -/
theorem nums_at {w : World} {A : Option Addr} {n cap : Nat} {ws : List Nat} (h : RdT w 3 (.slice A n cap) (nv ws)) (i : Nat) (hi : i < ws.length) : ∃ b o, A = some ⟨b, o, none⟩ ∧ w.cell? ⟨b, o + i, none⟩ = some (.int .i64 ((ws.getD i 0 : Nat) : Int)) ∧ n = ws.length := by
  obtain ⟨A', cap', hv, k1, k2, k3⟩ := h.rd
  injection hv with e1 e2 e3
  subst e1 e2 e3
  have hl : (nv ws).length = ws.length := by simp [nv]
  obtain ⟨b, o, rfl, _, hc⟩ := k3 (by rw [hl]; omega)
  refine ⟨b, o, rfl, hc i _ ?_, hl⟩
  rw [nv_at ws i hi, List.getD, List.getElem?_eq_getElem hi]; rfl
theorem made_own {w : World} {g base : Nat} {L : List Bool} (hb : Blk w g 4 (bv L).toArray) (hg : base ≤ g) (hm : L.length ≤ maxLen) : w.ownsRow base 4 1 (.slice (some ⟨g, 0, none⟩) L.length L.length) L.length (bv L) :=
  ⟨by rw [bv_len, Nat.mul_one], .inr ⟨g, _, _, rfl, hg, hb, Nat.le_refl _, hm, by simp [bv_len], by rw [Nat.mul_one, List.toList_toArray]; exact List.take_of_length_le (by rw [bv_len]; exact Nat.le_refl _)⟩⟩
set_option maxRecDepth 100000 in
set_option maxHeartbeats 4000000 in
theorem azWordBits_any (v : Value) (ws : List Nat) (c : Bool) (L : Nat) (w : World) (hv : RdT w 3 v (nv ws)) (hw : ∀ x ∈ ws, x < 4096) (hl : ws.length ≤ 1664) (h1 : 1 ≤ L) (h2 : L ≤ 32) :
    Calls Try.prog 8 #[v, .bool c, .int .i64 L] w fun e w' => ∃ v', e = .returned v' ∧ RdT w' 4 v' (bv (List.replicate (capN c L % widN L) false ++ wbits (widN L) ws)) ∧ Below w.heap.size w w' := by
  have hWd := azWidth_any L w h2
  have hCp := fun w' => azBits_any c L w' h2
  have hcap := (capN_all L (by omega) h1 c (by cases c <;> simp)).2.1
  have hwd := widN_le L
  obtain ⟨wd, hwdv⟩ : ∃ x, x = widN L := ⟨_, rfl⟩
  obtain ⟨cap, hcapv⟩ : ∃ x, x = capN c L := ⟨_, rfl⟩
  rw [← hwdv] at hWd hwd ⊢
  rw [← hcapv] at hCp hcap ⊢
  clear hwdv hcapv
  obtain ⟨R, hR⟩ : ∃ R, R = cap % wd := ⟨_, rfl⟩
  have t1 : Int.tmod (cap : Int) (wd : Int) = (R : Int) := by rw [Int.tmod_eq_emod_of_nonneg (by omega), hR]; simp
  have t2 : (cap : Int) % (wd : Int) = (R : Int) := by rw [hR]; simp
  have t3 : ¬ ((wd : Int) = 0) := by omega
  have hR12 : R < 12 := by have := Nat.mod_lt cap (show 0 < wd by omega); omega
  rw [← hR]
  clear hR
  have hmk := fun a => mk_bools R a (by omega)
  have hwx : ∀ i, i < ws.length → ws.getD i 0 < 4096 := fun i hi => by
    rw [List.getD, List.getElem?_eq_getElem hi]; exact hw _ (List.getElem_mem hi)
  have HWX := Lib.hid hwx
  have HV := Lib.hid hv
  obtain ⟨A, cp, rfl, k1, k2, -⟩ := hv
  have hnl : (nv ws).length = ws.length := by simp [nv]
  rw [hnl] at k1 HV ⊢
  unfold maxLen at k2
  clear hw hwx hnl
  go_enter Try.func8, Try.ntmps8
  go_wp2_with fail
  refine hWd.mono ?_
  rintro e w0 ⟨rfl, rfl⟩
  clear hWd
  go_wp2_with fail
  refine (hCp _).mono ?_
  rintro e w1 ⟨rfl, rfl⟩
  clear hCp
  go_wp2_with fail
  clear hmk t1 t2 t3
  have hWR0 : WrB ((w1.alloc (.cells (bv (List.replicate R false)).toArray 4)).alloc (.cells #[.slice (some ⟨w1.heap.size, 0, none⟩) R R, .string ⟨#[]⟩, .int .i64 0] 48)) (w1.heap.size + 1) w1.heap.size (List.replicate R false ++ wbits wd (ws.take 0)) ⟨#[]⟩ 0 (R + wd * 0) := by
    have h9 := made_own (base := w1.heap.size) (L := List.replicate R false) ((Blk.fresh w1 4 (bv (List.replicate R false)).toArray).alloc (.cells #[.slice (some ⟨w1.heap.size, 0, none⟩) R R, .string ⟨#[]⟩, .int .i64 0] 48)) (Nat.le_refl _) (by rw [List.length_replicate]; unfold maxLen; omega)
    rw [List.length_replicate] at h9
    refine ⟨⟨_, Blk.fresh' (by simp), ?_, ?_⟩, ?_, by omega⟩
    · have e : List.replicate R false ++ wbits wd (ws.take 0) = List.replicate R false := by simp [wbits]
      rw [e, Nat.mul_zero, Nat.add_zero]; exact h9
    · simp [Value.ownBlock]
    · simp [wbits]
  have HWR := Lib.hid hWR0
  have HK : Hid (KeepT w1 ((w1.alloc (.cells (bv (List.replicate R false)).toArray 4)).alloc (.cells #[.slice (some ⟨w1.heap.size, 0, none⟩) R R, .string ⟨#[]⟩, .int .i64 0] 48)) ∧ Below w1.heap.size w1 ((w1.alloc (.cells (bv (List.replicate R false)).toArray 4)).alloc (.cells #[.slice (some ⟨w1.heap.size, 0, none⟩) R R, .string ⟨#[]⟩, .int .i64 0] 48))) := Lib.hid ⟨KeepT.below (bal (bal (brf w1) _) _), bal (bal (brf w1) _) _⟩
  clear hWR0
  go_loopw [9] (fun iv wr => ∃ (i : Nat), i ≤ ws.length ∧ iv = .int .i64 (i : Int) ∧ Hid (WrB wr (w1.heap.size + 1) w1.heap.size (List.replicate R false ++ wbits wd (ws.take i)) ⟨#[]⟩ 0 (R + wd * i)) ∧ Hid (KeepT w1 wr ∧ Below w1.heap.size w1 wr)) (fun iv _ => ws.length - (intOf iv).toNat)
  case atStart => exact ⟨0, Nat.zero_le _, rfl, HWR, HK⟩
  case round =>
    clear HWR HK
    obtain ⟨i, hi, rfl, HWR, HK⟩ := hrel
    rename World => wr
    by_cases hlt : i < ws.length
    · have hkv := HK.out.1 _ _ _ (by decide) (by decide) HV.out
      obtain ⟨b, o, rfl, cB, -⟩ := nums_at hkv i hlt
      have hx := HWX.out i hlt
      have hn : R + wd * i ≤ 100000 := by
        have : wd * i ≤ 12 * 1664 := Nat.mul_le_mul hwd.2 (by omega)
        omega
      have hpt := putB_any (w1.heap.size + 1) w1.heap.size (ws.getD i 0) wd (R + wd * i) _ ⟨#[]⟩ 0 w1.heap.size wr HWR.out (by omega) (by omega) hn (Nat.le_refl _)
      have hnx := putL_app_take wd ws i hlt
      obtain ⟨x, hxv⟩ : ∃ x, x = ws.getD i 0 := ⟨_, rfl⟩
      rw [← hxv] at cB hpt hnx hx
      have HNX := Lib.hid hnx
      clear hkv hxv hnx HWR hn
      go_wp2_with fail
      refine hpt.mono ?_
      rintro e w2 ⟨rfl, hw2, hb2, -, hk2⟩
      have HWR2 : Hid (WrB w2 (w1.heap.size + 1) w1.heap.size (List.replicate R false ++ wbits wd (ws.take (i + 1))) ⟨#[]⟩ 0 (R + wd * (i + 1))) := Lib.hid (by
        rw [← HNX.out, ← List.append_assoc, Nat.mul_succ, ← Nat.add_assoc]; exact hw2)
      have HK2 := Lib.hid (And.intro (HK.out.1.trans hk2) (HK.out.2.trans hb2))
      clear hw2 hb2 hk2 hpt HK cB
      go_wp2_with fail
      go_roundw
      case rel => exact ⟨i + 1, by omega, by go_num, HWR2, HK2⟩
      case measure => simp [intOf]; omega
    · obtain rfl : i = ws.length := by omega
      have hw9 := HWR.out
      rw [List.take_length] at hw9
      obtain ⟨v, g1, g2, -⟩ := hw9.own
      have c0 : wr.cell? ⟨w1.heap.size + 1, 0, none⟩ = some v := by rw [g1.cell]; rfl
      have HO := Lib.hid (RdT.of_own g2)
      clear hw9 HWR g1 g2
      go_wp2_with fail
      go_ret
      exact ⟨_, rfl, HO.out, HK.out.2⟩
set_option maxRecDepth 100000 in
set_option maxHeartbeats 4000000 in
theorem azUnstuffed_any (v : Value) (ws : List Nat) (wd : Nat) (w : World) (hv : RdT w 3 v (nv ws)) (hw : ∀ x ∈ ws, x < 4096) (hl : ws.length ≤ 1664) (hwd : wd = 6 ∨ wd = 8 ∨ wd = 10 ∨ wd = 12) :
    Calls Try.prog 10 #[v, .int .i64 wd] w fun e w' => ∃ v', e = .returned v' ∧ RdT w' 4 v' (bv (unL wd ws)) ∧ Below w.heap.size w w' := by
  have hwx : ∀ i, i < ws.length → ws.getD i 0 < 4096 := fun i hi => by
    rw [List.getD, List.getElem?_eq_getElem hi]; exact hw _ (List.getElem_mem hi)
  have HWX := Lib.hid hwx
  have HV := Lib.hid hv
  obtain ⟨A, cp, rfl, k1, k2, -⟩ := hv
  have hnl : (nv ws).length = ws.length := by simp [nv]
  rw [hnl] at k1 HV ⊢
  unfold maxLen at k2
  clear hw hwx hnl
  rcases hwd with rfl | rfl | rfl | rfl
  · show Calls Try.prog 10 #[.slice A ws.length cp, .int .i64 6] w _
    go_enter Try.func10, Try.ntmps10
    go_wp2_with fail
    go_loopw [6] (fun iv wr => ∃ (i n : Nat), i ≤ ws.length ∧ iv = .int .i64 (i : Int) ∧ n ≤ 12 * i ∧ Hid (WrB wr w.heap.size w.heap.size (unL 6 (ws.take i)) ⟨#[]⟩ 0 n) ∧ Hid (KeepT w wr ∧ Below w.heap.size w wr)) (fun iv _ => ws.length - (intOf iv).toNat)
    case atStart => exact ⟨0, 0, Nat.zero_le _, rfl, Nat.le_refl _, Lib.hid ⟨⟨_, Blk.fresh w _ _, own_nil _ _ _, by simp [Value.ownBlock]⟩, by simp [unL], Nat.le_refl _⟩, Lib.hid ⟨KeepT.below (bal (brf w) _), bal (brf w) _⟩⟩
    case round =>
      obtain ⟨i, n, hi, rfl, hn, HWR, HK⟩ := hrel
      rename World => wr
      by_cases hlt : i < ws.length
      · have hkv := HK.out.1 _ _ _ (by decide) (by decide) HV.out
        obtain ⟨b, o, rfl, cB, -⟩ := nums_at hkv i hlt
        have hx := HWX.out i hlt
        obtain ⟨x, hxv⟩ : ∃ x, x = ws.getD i 0 := ⟨_, rfl⟩
        rw [← hxv] at cB hx
        have HXV := Lib.hid hxv
        clear hkv hxv
        by_cases hx1 : x = 1
        · subst hx1
          -- N, many, the bits' equation: one word is put
          have hpt : Calls Try.prog 15 #[.pointer (some ⟨w.heap.size, 0, none⟩), .int .i64 0, .int .i64 5] wr fun e w' => e = .returned (.tuple #[]) ∧ WrB w' w.heap.size w.heap.size (unL 6 (ws.take i) ++ putL 0 5) ⟨#[]⟩ 0 (n + 5) ∧ Below w.heap.size wr w' ∧ wr.heap.size ≤ w'.heap.size ∧ KeepT wr w' :=
            putB_any w.heap.size w.heap.size 0 5 n _ ⟨#[]⟩ 0 w.heap.size wr HWR.out (by omega) (by omega) (by omega) (Nat.le_refl _)
          have HNX : Hid (unL 6 (ws.take i) ++ putL 0 5 = unL 6 (ws.take (i + 1))) := Lib.hid (by rw [← unW_app_take 6 ws i hlt, ← HXV.out]; (congr 1))
          have hnx : n + 5 ≤ 12 * (i + 1) := by omega
          clear HWR HXV
          go_wp2_with fail
          refine hpt.mono ?_
          rintro e w2 ⟨rfl, hw2, hb2, -, hk2⟩
          have HWR2 : Hid (WrB w2 w.heap.size w.heap.size (unL 6 (ws.take (i + 1))) ⟨#[]⟩ 0 (n + 5)) := Lib.hid (by rw [← HNX.out]; exact hw2)
          have HK2 := Lib.hid (And.intro (HK.out.1.trans hk2) (HK.out.2.trans hb2))
          clear hw2 hb2 hk2 hpt HK cB HNX
          go_wp2_with fail
          go_roundw
          case rel => exact ⟨i + 1, n + 5, by omega, by go_num, hnx, HWR2, HK2⟩
          case measure => simp [intOf]; omega
        · by_cases hx2 : x = 62
          · subst hx2
            -- N, many, the bits' equation: one word is put
            have hpt : Calls Try.prog 15 #[.pointer (some ⟨w.heap.size, 0, none⟩), .int .i64 31, .int .i64 5] wr fun e w' => e = .returned (.tuple #[]) ∧ WrB w' w.heap.size w.heap.size (unL 6 (ws.take i) ++ putL 31 5) ⟨#[]⟩ 0 (n + 5) ∧ Below w.heap.size wr w' ∧ wr.heap.size ≤ w'.heap.size ∧ KeepT wr w' :=
              putB_any w.heap.size w.heap.size 31 5 n _ ⟨#[]⟩ 0 w.heap.size wr HWR.out (by omega) (by omega) (by omega) (Nat.le_refl _)
            have HNX : Hid (unL 6 (ws.take i) ++ putL 31 5 = unL 6 (ws.take (i + 1))) := Lib.hid (by rw [← unW_app_take 6 ws i hlt, ← HXV.out]; (congr 1))
            have hnx : n + 5 ≤ 12 * (i + 1) := by omega
            clear HWR HXV
            go_wp2_with fail
            refine hpt.mono ?_
            rintro e w2 ⟨rfl, hw2, hb2, -, hk2⟩
            have HWR2 : Hid (WrB w2 w.heap.size w.heap.size (unL 6 (ws.take (i + 1))) ⟨#[]⟩ 0 (n + 5)) := Lib.hid (by rw [← HNX.out]; exact hw2)
            have HK2 := Lib.hid (And.intro (HK.out.1.trans hk2) (HK.out.2.trans hb2))
            clear hw2 hb2 hk2 hpt HK cB HNX
            go_wp2_with fail
            go_roundw
            case rel => exact ⟨i + 1, n + 5, by omega, by go_num, hnx, HWR2, HK2⟩
            case measure => simp [intOf]; omega
          · have e1 : ((x : Int) == 1) = false := by rw [beq_eq_false_iff_ne]; omega
            have e2 : ((x : Int) == 62) = false := by rw [beq_eq_false_iff_ne]; omega
            have hst : isStuf 6 x = false := by
              unfold isStuf
              rw [Bool.or_eq_false_iff, beq_eq_false_iff_ne, beq_eq_false_iff_ne]
              exact ⟨hx1, hx2⟩
            have HST := Lib.hid hst
            clear hst
            -- N, many, the bits' equation: one word is put
            have hpt : Calls Try.prog 15 #[.pointer (some ⟨w.heap.size, 0, none⟩), .int .i64 (x : Int), .int .i64 6] wr fun e w' => e = .returned (.tuple #[]) ∧ WrB w' w.heap.size w.heap.size (unL 6 (ws.take i) ++ putL x 6) ⟨#[]⟩ 0 (n + 6) ∧ Below w.heap.size wr w' ∧ wr.heap.size ≤ w'.heap.size ∧ KeepT wr w' :=
              putB_any w.heap.size w.heap.size x 6 n _ ⟨#[]⟩ 0 w.heap.size wr HWR.out (by omega) (by omega) (by omega) (Nat.le_refl _)
            have HNX : Hid (unL 6 (ws.take i) ++ putL x 6 = unL 6 (ws.take (i + 1))) := Lib.hid (by rw [← unW_app_take 6 ws i hlt, ← HXV.out]; (congr 1; unfold unW; rw [if_neg (by rw [HST.out]; decide)]))
            have hnx : n + 6 ≤ 12 * (i + 1) := by omega
            clear HWR HXV
            go_wp2_with fail
            refine hpt.mono ?_
            rintro e w2 ⟨rfl, hw2, hb2, -, hk2⟩
            have HWR2 : Hid (WrB w2 w.heap.size w.heap.size (unL 6 (ws.take (i + 1))) ⟨#[]⟩ 0 (n + 6)) := Lib.hid (by rw [← HNX.out]; exact hw2)
            have HK2 := Lib.hid (And.intro (HK.out.1.trans hk2) (HK.out.2.trans hb2))
            clear hw2 hb2 hk2 hpt HK cB HNX
            go_wp2_with fail
            go_roundw
            case rel => exact ⟨i + 1, n + 6, by omega, by go_num, hnx, HWR2, HK2⟩
            case measure => simp [intOf]; omega
      · obtain rfl : i = ws.length := by omega
        have hw9 := HWR.out
        rw [List.take_length] at hw9
        obtain ⟨v, g1, g2, -⟩ := hw9.own
        have c0 : wr.cell? ⟨w.heap.size, 0, none⟩ = some v := by rw [g1.cell]; rfl
        have HO := Lib.hid (RdT.of_own g2)
        clear hw9 HWR g1 g2
        go_wp2_with fail
        go_ret
        exact ⟨_, rfl, HO.out, HK.out.2⟩
  · show Calls Try.prog 10 #[.slice A ws.length cp, .int .i64 8] w _
    go_enter Try.func10, Try.ntmps10
    go_wp2_with fail
    go_loopw [6] (fun iv wr => ∃ (i n : Nat), i ≤ ws.length ∧ iv = .int .i64 (i : Int) ∧ n ≤ 12 * i ∧ Hid (WrB wr w.heap.size w.heap.size (unL 8 (ws.take i)) ⟨#[]⟩ 0 n) ∧ Hid (KeepT w wr ∧ Below w.heap.size w wr)) (fun iv _ => ws.length - (intOf iv).toNat)
    case atStart => exact ⟨0, 0, Nat.zero_le _, rfl, Nat.le_refl _, Lib.hid ⟨⟨_, Blk.fresh w _ _, own_nil _ _ _, by simp [Value.ownBlock]⟩, by simp [unL], Nat.le_refl _⟩, Lib.hid ⟨KeepT.below (bal (brf w) _), bal (brf w) _⟩⟩
    case round =>
      obtain ⟨i, n, hi, rfl, hn, HWR, HK⟩ := hrel
      rename World => wr
      by_cases hlt : i < ws.length
      · have hkv := HK.out.1 _ _ _ (by decide) (by decide) HV.out
        obtain ⟨b, o, rfl, cB, -⟩ := nums_at hkv i hlt
        have hx := HWX.out i hlt
        obtain ⟨x, hxv⟩ : ∃ x, x = ws.getD i 0 := ⟨_, rfl⟩
        rw [← hxv] at cB hx
        have HXV := Lib.hid hxv
        clear hkv hxv
        by_cases hx1 : x = 1
        · subst hx1
          -- N, many, the bits' equation: one word is put
          have hpt : Calls Try.prog 15 #[.pointer (some ⟨w.heap.size, 0, none⟩), .int .i64 0, .int .i64 7] wr fun e w' => e = .returned (.tuple #[]) ∧ WrB w' w.heap.size w.heap.size (unL 8 (ws.take i) ++ putL 0 7) ⟨#[]⟩ 0 (n + 7) ∧ Below w.heap.size wr w' ∧ wr.heap.size ≤ w'.heap.size ∧ KeepT wr w' :=
            putB_any w.heap.size w.heap.size 0 7 n _ ⟨#[]⟩ 0 w.heap.size wr HWR.out (by omega) (by omega) (by omega) (Nat.le_refl _)
          have HNX : Hid (unL 8 (ws.take i) ++ putL 0 7 = unL 8 (ws.take (i + 1))) := Lib.hid (by rw [← unW_app_take 8 ws i hlt, ← HXV.out]; (congr 1))
          have hnx : n + 7 ≤ 12 * (i + 1) := by omega
          clear HWR HXV
          go_wp2_with fail
          refine hpt.mono ?_
          rintro e w2 ⟨rfl, hw2, hb2, -, hk2⟩
          have HWR2 : Hid (WrB w2 w.heap.size w.heap.size (unL 8 (ws.take (i + 1))) ⟨#[]⟩ 0 (n + 7)) := Lib.hid (by rw [← HNX.out]; exact hw2)
          have HK2 := Lib.hid (And.intro (HK.out.1.trans hk2) (HK.out.2.trans hb2))
          clear hw2 hb2 hk2 hpt HK cB HNX
          go_wp2_with fail
          go_roundw
          case rel => exact ⟨i + 1, n + 7, by omega, by go_num, hnx, HWR2, HK2⟩
          case measure => simp [intOf]; omega
        · by_cases hx2 : x = 254
          · subst hx2
            -- N, many, the bits' equation: one word is put
            have hpt : Calls Try.prog 15 #[.pointer (some ⟨w.heap.size, 0, none⟩), .int .i64 127, .int .i64 7] wr fun e w' => e = .returned (.tuple #[]) ∧ WrB w' w.heap.size w.heap.size (unL 8 (ws.take i) ++ putL 127 7) ⟨#[]⟩ 0 (n + 7) ∧ Below w.heap.size wr w' ∧ wr.heap.size ≤ w'.heap.size ∧ KeepT wr w' :=
              putB_any w.heap.size w.heap.size 127 7 n _ ⟨#[]⟩ 0 w.heap.size wr HWR.out (by omega) (by omega) (by omega) (Nat.le_refl _)
            have HNX : Hid (unL 8 (ws.take i) ++ putL 127 7 = unL 8 (ws.take (i + 1))) := Lib.hid (by rw [← unW_app_take 8 ws i hlt, ← HXV.out]; (congr 1))
            have hnx : n + 7 ≤ 12 * (i + 1) := by omega
            clear HWR HXV
            go_wp2_with fail
            refine hpt.mono ?_
            rintro e w2 ⟨rfl, hw2, hb2, -, hk2⟩
            have HWR2 : Hid (WrB w2 w.heap.size w.heap.size (unL 8 (ws.take (i + 1))) ⟨#[]⟩ 0 (n + 7)) := Lib.hid (by rw [← HNX.out]; exact hw2)
            have HK2 := Lib.hid (And.intro (HK.out.1.trans hk2) (HK.out.2.trans hb2))
            clear hw2 hb2 hk2 hpt HK cB HNX
            go_wp2_with fail
            go_roundw
            case rel => exact ⟨i + 1, n + 7, by omega, by go_num, hnx, HWR2, HK2⟩
            case measure => simp [intOf]; omega
          · have e1 : ((x : Int) == 1) = false := by rw [beq_eq_false_iff_ne]; omega
            have e2 : ((x : Int) == 254) = false := by rw [beq_eq_false_iff_ne]; omega
            have hst : isStuf 8 x = false := by
              unfold isStuf
              rw [Bool.or_eq_false_iff, beq_eq_false_iff_ne, beq_eq_false_iff_ne]
              exact ⟨hx1, hx2⟩
            have HST := Lib.hid hst
            clear hst
            -- N, many, the bits' equation: one word is put
            have hpt : Calls Try.prog 15 #[.pointer (some ⟨w.heap.size, 0, none⟩), .int .i64 (x : Int), .int .i64 8] wr fun e w' => e = .returned (.tuple #[]) ∧ WrB w' w.heap.size w.heap.size (unL 8 (ws.take i) ++ putL x 8) ⟨#[]⟩ 0 (n + 8) ∧ Below w.heap.size wr w' ∧ wr.heap.size ≤ w'.heap.size ∧ KeepT wr w' :=
              putB_any w.heap.size w.heap.size x 8 n _ ⟨#[]⟩ 0 w.heap.size wr HWR.out (by omega) (by omega) (by omega) (Nat.le_refl _)
            have HNX : Hid (unL 8 (ws.take i) ++ putL x 8 = unL 8 (ws.take (i + 1))) := Lib.hid (by rw [← unW_app_take 8 ws i hlt, ← HXV.out]; (congr 1; unfold unW; rw [if_neg (by rw [HST.out]; decide)]))
            have hnx : n + 8 ≤ 12 * (i + 1) := by omega
            clear HWR HXV
            go_wp2_with fail
            refine hpt.mono ?_
            rintro e w2 ⟨rfl, hw2, hb2, -, hk2⟩
            have HWR2 : Hid (WrB w2 w.heap.size w.heap.size (unL 8 (ws.take (i + 1))) ⟨#[]⟩ 0 (n + 8)) := Lib.hid (by rw [← HNX.out]; exact hw2)
            have HK2 := Lib.hid (And.intro (HK.out.1.trans hk2) (HK.out.2.trans hb2))
            clear hw2 hb2 hk2 hpt HK cB HNX
            go_wp2_with fail
            go_roundw
            case rel => exact ⟨i + 1, n + 8, by omega, by go_num, hnx, HWR2, HK2⟩
            case measure => simp [intOf]; omega
      · obtain rfl : i = ws.length := by omega
        have hw9 := HWR.out
        rw [List.take_length] at hw9
        obtain ⟨v, g1, g2, -⟩ := hw9.own
        have c0 : wr.cell? ⟨w.heap.size, 0, none⟩ = some v := by rw [g1.cell]; rfl
        have HO := Lib.hid (RdT.of_own g2)
        clear hw9 HWR g1 g2
        go_wp2_with fail
        go_ret
        exact ⟨_, rfl, HO.out, HK.out.2⟩
  · show Calls Try.prog 10 #[.slice A ws.length cp, .int .i64 10] w _
    go_enter Try.func10, Try.ntmps10
    go_wp2_with fail
    go_loopw [6] (fun iv wr => ∃ (i n : Nat), i ≤ ws.length ∧ iv = .int .i64 (i : Int) ∧ n ≤ 12 * i ∧ Hid (WrB wr w.heap.size w.heap.size (unL 10 (ws.take i)) ⟨#[]⟩ 0 n) ∧ Hid (KeepT w wr ∧ Below w.heap.size w wr)) (fun iv _ => ws.length - (intOf iv).toNat)
    case atStart => exact ⟨0, 0, Nat.zero_le _, rfl, Nat.le_refl _, Lib.hid ⟨⟨_, Blk.fresh w _ _, own_nil _ _ _, by simp [Value.ownBlock]⟩, by simp [unL], Nat.le_refl _⟩, Lib.hid ⟨KeepT.below (bal (brf w) _), bal (brf w) _⟩⟩
    case round =>
      obtain ⟨i, n, hi, rfl, hn, HWR, HK⟩ := hrel
      rename World => wr
      by_cases hlt : i < ws.length
      · have hkv := HK.out.1 _ _ _ (by decide) (by decide) HV.out
        obtain ⟨b, o, rfl, cB, -⟩ := nums_at hkv i hlt
        have hx := HWX.out i hlt
        obtain ⟨x, hxv⟩ : ∃ x, x = ws.getD i 0 := ⟨_, rfl⟩
        rw [← hxv] at cB hx
        have HXV := Lib.hid hxv
        clear hkv hxv
        by_cases hx1 : x = 1
        · subst hx1
          -- N, many, the bits' equation: one word is put
          have hpt : Calls Try.prog 15 #[.pointer (some ⟨w.heap.size, 0, none⟩), .int .i64 0, .int .i64 9] wr fun e w' => e = .returned (.tuple #[]) ∧ WrB w' w.heap.size w.heap.size (unL 10 (ws.take i) ++ putL 0 9) ⟨#[]⟩ 0 (n + 9) ∧ Below w.heap.size wr w' ∧ wr.heap.size ≤ w'.heap.size ∧ KeepT wr w' :=
            putB_any w.heap.size w.heap.size 0 9 n _ ⟨#[]⟩ 0 w.heap.size wr HWR.out (by omega) (by omega) (by omega) (Nat.le_refl _)
          have HNX : Hid (unL 10 (ws.take i) ++ putL 0 9 = unL 10 (ws.take (i + 1))) := Lib.hid (by rw [← unW_app_take 10 ws i hlt, ← HXV.out]; (congr 1))
          have hnx : n + 9 ≤ 12 * (i + 1) := by omega
          clear HWR HXV
          go_wp2_with fail
          refine hpt.mono ?_
          rintro e w2 ⟨rfl, hw2, hb2, -, hk2⟩
          have HWR2 : Hid (WrB w2 w.heap.size w.heap.size (unL 10 (ws.take (i + 1))) ⟨#[]⟩ 0 (n + 9)) := Lib.hid (by rw [← HNX.out]; exact hw2)
          have HK2 := Lib.hid (And.intro (HK.out.1.trans hk2) (HK.out.2.trans hb2))
          clear hw2 hb2 hk2 hpt HK cB HNX
          go_wp2_with fail
          go_roundw
          case rel => exact ⟨i + 1, n + 9, by omega, by go_num, hnx, HWR2, HK2⟩
          case measure => simp [intOf]; omega
        · by_cases hx2 : x = 1022
          · subst hx2
            -- N, many, the bits' equation: one word is put
            have hpt : Calls Try.prog 15 #[.pointer (some ⟨w.heap.size, 0, none⟩), .int .i64 511, .int .i64 9] wr fun e w' => e = .returned (.tuple #[]) ∧ WrB w' w.heap.size w.heap.size (unL 10 (ws.take i) ++ putL 511 9) ⟨#[]⟩ 0 (n + 9) ∧ Below w.heap.size wr w' ∧ wr.heap.size ≤ w'.heap.size ∧ KeepT wr w' :=
              putB_any w.heap.size w.heap.size 511 9 n _ ⟨#[]⟩ 0 w.heap.size wr HWR.out (by omega) (by omega) (by omega) (Nat.le_refl _)
            have HNX : Hid (unL 10 (ws.take i) ++ putL 511 9 = unL 10 (ws.take (i + 1))) := Lib.hid (by rw [← unW_app_take 10 ws i hlt, ← HXV.out]; (congr 1))
            have hnx : n + 9 ≤ 12 * (i + 1) := by omega
            clear HWR HXV
            go_wp2_with fail
            refine hpt.mono ?_
            rintro e w2 ⟨rfl, hw2, hb2, -, hk2⟩
            have HWR2 : Hid (WrB w2 w.heap.size w.heap.size (unL 10 (ws.take (i + 1))) ⟨#[]⟩ 0 (n + 9)) := Lib.hid (by rw [← HNX.out]; exact hw2)
            have HK2 := Lib.hid (And.intro (HK.out.1.trans hk2) (HK.out.2.trans hb2))
            clear hw2 hb2 hk2 hpt HK cB HNX
            go_wp2_with fail
            go_roundw
            case rel => exact ⟨i + 1, n + 9, by omega, by go_num, hnx, HWR2, HK2⟩
            case measure => simp [intOf]; omega
          · have e1 : ((x : Int) == 1) = false := by rw [beq_eq_false_iff_ne]; omega
            have e2 : ((x : Int) == 1022) = false := by rw [beq_eq_false_iff_ne]; omega
            have hst : isStuf 10 x = false := by
              unfold isStuf
              rw [Bool.or_eq_false_iff, beq_eq_false_iff_ne, beq_eq_false_iff_ne]
              exact ⟨hx1, hx2⟩
            have HST := Lib.hid hst
            clear hst
            -- N, many, the bits' equation: one word is put
            have hpt : Calls Try.prog 15 #[.pointer (some ⟨w.heap.size, 0, none⟩), .int .i64 (x : Int), .int .i64 10] wr fun e w' => e = .returned (.tuple #[]) ∧ WrB w' w.heap.size w.heap.size (unL 10 (ws.take i) ++ putL x 10) ⟨#[]⟩ 0 (n + 10) ∧ Below w.heap.size wr w' ∧ wr.heap.size ≤ w'.heap.size ∧ KeepT wr w' :=
              putB_any w.heap.size w.heap.size x 10 n _ ⟨#[]⟩ 0 w.heap.size wr HWR.out (by omega) (by omega) (by omega) (Nat.le_refl _)
            have HNX : Hid (unL 10 (ws.take i) ++ putL x 10 = unL 10 (ws.take (i + 1))) := Lib.hid (by rw [← unW_app_take 10 ws i hlt, ← HXV.out]; (congr 1; unfold unW; rw [if_neg (by rw [HST.out]; decide)]))
            have hnx : n + 10 ≤ 12 * (i + 1) := by omega
            clear HWR HXV
            go_wp2_with fail
            refine hpt.mono ?_
            rintro e w2 ⟨rfl, hw2, hb2, -, hk2⟩
            have HWR2 : Hid (WrB w2 w.heap.size w.heap.size (unL 10 (ws.take (i + 1))) ⟨#[]⟩ 0 (n + 10)) := Lib.hid (by rw [← HNX.out]; exact hw2)
            have HK2 := Lib.hid (And.intro (HK.out.1.trans hk2) (HK.out.2.trans hb2))
            clear hw2 hb2 hk2 hpt HK cB HNX
            go_wp2_with fail
            go_roundw
            case rel => exact ⟨i + 1, n + 10, by omega, by go_num, hnx, HWR2, HK2⟩
            case measure => simp [intOf]; omega
      · obtain rfl : i = ws.length := by omega
        have hw9 := HWR.out
        rw [List.take_length] at hw9
        obtain ⟨v, g1, g2, -⟩ := hw9.own
        have c0 : wr.cell? ⟨w.heap.size, 0, none⟩ = some v := by rw [g1.cell]; rfl
        have HO := Lib.hid (RdT.of_own g2)
        clear hw9 HWR g1 g2
        go_wp2_with fail
        go_ret
        exact ⟨_, rfl, HO.out, HK.out.2⟩
  · show Calls Try.prog 10 #[.slice A ws.length cp, .int .i64 12] w _
    go_enter Try.func10, Try.ntmps10
    go_wp2_with fail
    go_loopw [6] (fun iv wr => ∃ (i n : Nat), i ≤ ws.length ∧ iv = .int .i64 (i : Int) ∧ n ≤ 12 * i ∧ Hid (WrB wr w.heap.size w.heap.size (unL 12 (ws.take i)) ⟨#[]⟩ 0 n) ∧ Hid (KeepT w wr ∧ Below w.heap.size w wr)) (fun iv _ => ws.length - (intOf iv).toNat)
    case atStart => exact ⟨0, 0, Nat.zero_le _, rfl, Nat.le_refl _, Lib.hid ⟨⟨_, Blk.fresh w _ _, own_nil _ _ _, by simp [Value.ownBlock]⟩, by simp [unL], Nat.le_refl _⟩, Lib.hid ⟨KeepT.below (bal (brf w) _), bal (brf w) _⟩⟩
    case round =>
      obtain ⟨i, n, hi, rfl, hn, HWR, HK⟩ := hrel
      rename World => wr
      by_cases hlt : i < ws.length
      · have hkv := HK.out.1 _ _ _ (by decide) (by decide) HV.out
        obtain ⟨b, o, rfl, cB, -⟩ := nums_at hkv i hlt
        have hx := HWX.out i hlt
        obtain ⟨x, hxv⟩ : ∃ x, x = ws.getD i 0 := ⟨_, rfl⟩
        rw [← hxv] at cB hx
        have HXV := Lib.hid hxv
        clear hkv hxv
        by_cases hx1 : x = 1
        · subst hx1
          -- N, many, the bits' equation: one word is put
          have hpt : Calls Try.prog 15 #[.pointer (some ⟨w.heap.size, 0, none⟩), .int .i64 0, .int .i64 11] wr fun e w' => e = .returned (.tuple #[]) ∧ WrB w' w.heap.size w.heap.size (unL 12 (ws.take i) ++ putL 0 11) ⟨#[]⟩ 0 (n + 11) ∧ Below w.heap.size wr w' ∧ wr.heap.size ≤ w'.heap.size ∧ KeepT wr w' :=
            putB_any w.heap.size w.heap.size 0 11 n _ ⟨#[]⟩ 0 w.heap.size wr HWR.out (by omega) (by omega) (by omega) (Nat.le_refl _)
          have HNX : Hid (unL 12 (ws.take i) ++ putL 0 11 = unL 12 (ws.take (i + 1))) := Lib.hid (by rw [← unW_app_take 12 ws i hlt, ← HXV.out]; (congr 1))
          have hnx : n + 11 ≤ 12 * (i + 1) := by omega
          clear HWR HXV
          go_wp2_with fail
          refine hpt.mono ?_
          rintro e w2 ⟨rfl, hw2, hb2, -, hk2⟩
          have HWR2 : Hid (WrB w2 w.heap.size w.heap.size (unL 12 (ws.take (i + 1))) ⟨#[]⟩ 0 (n + 11)) := Lib.hid (by rw [← HNX.out]; exact hw2)
          have HK2 := Lib.hid (And.intro (HK.out.1.trans hk2) (HK.out.2.trans hb2))
          clear hw2 hb2 hk2 hpt HK cB HNX
          go_wp2_with fail
          go_roundw
          case rel => exact ⟨i + 1, n + 11, by omega, by go_num, hnx, HWR2, HK2⟩
          case measure => simp [intOf]; omega
        · by_cases hx2 : x = 4094
          · subst hx2
            -- N, many, the bits' equation: one word is put
            have hpt : Calls Try.prog 15 #[.pointer (some ⟨w.heap.size, 0, none⟩), .int .i64 2047, .int .i64 11] wr fun e w' => e = .returned (.tuple #[]) ∧ WrB w' w.heap.size w.heap.size (unL 12 (ws.take i) ++ putL 2047 11) ⟨#[]⟩ 0 (n + 11) ∧ Below w.heap.size wr w' ∧ wr.heap.size ≤ w'.heap.size ∧ KeepT wr w' :=
              putB_any w.heap.size w.heap.size 2047 11 n _ ⟨#[]⟩ 0 w.heap.size wr HWR.out (by omega) (by omega) (by omega) (Nat.le_refl _)
            have HNX : Hid (unL 12 (ws.take i) ++ putL 2047 11 = unL 12 (ws.take (i + 1))) := Lib.hid (by rw [← unW_app_take 12 ws i hlt, ← HXV.out]; (congr 1))
            have hnx : n + 11 ≤ 12 * (i + 1) := by omega
            clear HWR HXV
            go_wp2_with fail
            refine hpt.mono ?_
            rintro e w2 ⟨rfl, hw2, hb2, -, hk2⟩
            have HWR2 : Hid (WrB w2 w.heap.size w.heap.size (unL 12 (ws.take (i + 1))) ⟨#[]⟩ 0 (n + 11)) := Lib.hid (by rw [← HNX.out]; exact hw2)
            have HK2 := Lib.hid (And.intro (HK.out.1.trans hk2) (HK.out.2.trans hb2))
            clear hw2 hb2 hk2 hpt HK cB HNX
            go_wp2_with fail
            go_roundw
            case rel => exact ⟨i + 1, n + 11, by omega, by go_num, hnx, HWR2, HK2⟩
            case measure => simp [intOf]; omega
          · have e1 : ((x : Int) == 1) = false := by rw [beq_eq_false_iff_ne]; omega
            have e2 : ((x : Int) == 4094) = false := by rw [beq_eq_false_iff_ne]; omega
            have hst : isStuf 12 x = false := by
              unfold isStuf
              rw [Bool.or_eq_false_iff, beq_eq_false_iff_ne, beq_eq_false_iff_ne]
              exact ⟨hx1, hx2⟩
            have HST := Lib.hid hst
            clear hst
            -- N, many, the bits' equation: one word is put
            have hpt : Calls Try.prog 15 #[.pointer (some ⟨w.heap.size, 0, none⟩), .int .i64 (x : Int), .int .i64 12] wr fun e w' => e = .returned (.tuple #[]) ∧ WrB w' w.heap.size w.heap.size (unL 12 (ws.take i) ++ putL x 12) ⟨#[]⟩ 0 (n + 12) ∧ Below w.heap.size wr w' ∧ wr.heap.size ≤ w'.heap.size ∧ KeepT wr w' :=
              putB_any w.heap.size w.heap.size x 12 n _ ⟨#[]⟩ 0 w.heap.size wr HWR.out (by omega) (by omega) (by omega) (Nat.le_refl _)
            have HNX : Hid (unL 12 (ws.take i) ++ putL x 12 = unL 12 (ws.take (i + 1))) := Lib.hid (by rw [← unW_app_take 12 ws i hlt, ← HXV.out]; (congr 1; unfold unW; rw [if_neg (by rw [HST.out]; decide)]))
            have hnx : n + 12 ≤ 12 * (i + 1) := by omega
            clear HWR HXV
            go_wp2_with fail
            refine hpt.mono ?_
            rintro e w2 ⟨rfl, hw2, hb2, -, hk2⟩
            have HWR2 : Hid (WrB w2 w.heap.size w.heap.size (unL 12 (ws.take (i + 1))) ⟨#[]⟩ 0 (n + 12)) := Lib.hid (by rw [← HNX.out]; exact hw2)
            have HK2 := Lib.hid (And.intro (HK.out.1.trans hk2) (HK.out.2.trans hb2))
            clear hw2 hb2 hk2 hpt HK cB HNX
            go_wp2_with fail
            go_roundw
            case rel => exact ⟨i + 1, n + 12, by omega, by go_num, hnx, HWR2, HK2⟩
            case measure => simp [intOf]; omega
      · obtain rfl : i = ws.length := by omega
        have hw9 := HWR.out
        rw [List.take_length] at hw9
        obtain ⟨v, g1, g2, -⟩ := hw9.own
        have c0 : wr.cell? ⟨w.heap.size, 0, none⟩ = some v := by rw [g1.cell]; rfl
        have HO := Lib.hid (RdT.of_own g2)
        clear hw9 HWR g1 g2
        go_wp2_with fail
        go_ret
        exact ⟨_, rfl, HO.out, HK.out.2⟩
end Go.Proofs.Ytpjaehljgpopmaa
