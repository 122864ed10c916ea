/-
  WALKS: the data of a mode message.
-/
import Derived.Test.YtibdeekgcbmofaaKh2
namespace Go.Proofs.Ytibdeekgcbmofaa
open Go.RowKit

theorem LogsAt.less {w : World} {g n m : Nat} {F : Gf.Fd} (h : LogsAt w g F n) (hm : m ≤ n) : LogsAt w g F m := by
  obtain ⟨e0, q0, q1, gl, cl, h1, h2, h3, h4, h5⟩ := h
  exact ⟨e0, q0, q1, gl, cl, h1, h2, h3, by omega, by omega⟩
theorem param_any (w : World) : Calls Try.prog 25 #[] w (MadeFieldL w FM) := by
  have h : ∀ W, Calls Try.prog 28 #[.int .i64 19, .int .i64 16, .int .i64 1] W (MadeFieldL W FM) := fun W => newFieldL_any FM FM_ok (by decide) W
  have H := Lib.hid h; clear h
  go_enter Try.func25, Try.ntmps25
  go_wp2_with fail
  refine (H.out w).mono ?_
  rintro e w1 ⟨g, rfl, h1, h2, h3⟩
  go_wp2
  go_ret
  exact ⟨g, rfl, h1, h2, h3⟩
theorem take_joinN (l : List Nat) (k : Nat) (hk : k < l.length) : joinN 0 (l.take (k + 1)) = 16 * joinN 0 (l.take k) + l[k] := by
  rw [List.take_succ_eq_append_getElem hk, joinN_snoc]
theorem join_bits (P : Nat) (hP : P < 9223372036854775808) : bits .and .i64 (P : Int) 15 = ((P % 16 : Nat) : Int) := by
  have h1 : bits .and .i64 (P : Int) 15 = ((P &&& 15 : Nat) : Int) := i64_and P 15 hP (by decide)
  rw [h1]
  congr 1
  exact Nat.and_two_pow_sub_one_eq_mod _ 4

set_option maxRecDepth 100000 in
set_option maxHeartbeats 4000000 in
theorem corrected_compact (g : Nat) (l ws : List Nat) (w : World) (hg : w.cell? ⟨g, 1, none⟩ = some (.bool true)) (hl : l.length = 7) (hx : ∀ x ∈ l, x < 16) (hd : Gf.rsDec FM 5 l = some ws) (hwl : ws.length = 7) (hwx : ∀ x ∈ ws, x < 16) :
    Calls Try.prog 16 #[.pointer (some ⟨g, 0, none⟩), .int .i64 ((joinN 0 l : Nat) : Int), .bool true] w fun e w' => e = .returned (.tuple #[.int .i64 ((joinN 0 (ws.take 2) : Nat) : Int), .nilIface]) ∧ Below w.heap.size w w' := by
  have hmk : ∀ W : World, (Instr.makeSlice 24 (.int .i64 7) (.int .i64 7)).run Try.prog W = .ok (.slice (some ⟨W.heap.size, 0, none⟩) 7 7) (W.alloc (.cells (nv (List.replicate 7 0)).toArray 3)) := fun W => mk_ints 7 W (by omega)
  have HL := Lib.hid (And.intro hl hx); clear hl hx
  have HD := Lib.hid (And.intro hd (And.intro hwl hwx)); clear hd hwl hwx
  have hj0 : joinN 0 l = joinN 0 (l.take 7) := by rw [List.take_of_length_le (by rw [HL.out.1]; exact Nat.le_refl _)]
  obtain ⟨J, hJ⟩ : ∃ J, J = joinN 0 l := ⟨_, rfl⟩
  rw [← hJ] at hj0 ⊢
  have HJ := Lib.hid hj0; clear hj0 hJ
  go_enter Try.func16, Try.ntmps16
  go_wp2_with fail
  clear hmk
  go_loopw [1, 12] (fun v1 v12 wr => ∃ (k P : Nat) (i : Int), k ≤ 7 ∧ P < 1099511627776 ∧ v1 = .int .i64 P ∧ v12 = .int .i64 i ∧ Hid (P = joinN 0 (l.take k)) ∧ Hid (i = (k : Int) - 1) ∧ Hid (Blk wr w.heap.size 3 (nv (List.replicate k 0 ++ l.drop k)).toArray) ∧ Hid (Below w.heap.size w wr)) (fun _ v12 _ => ((intOf v12) + 1).toNat)
  case atStart =>
    have hJb : J < 1099511627776 := by
      rw [HJ.out]
      refine Nat.lt_of_lt_of_le (joinN_lt _ 0 1 (fun x hm => HL.out.2 x (List.mem_of_mem_take hm)) (by decide)) ?_
      rw [Nat.one_mul]
      exact Nat.le_trans (Nat.pow_le_pow_right (by decide) (show (l.take 7).length ≤ 10 by rw [List.length_take]; omega)) (by decide)
    exact ⟨7, J, 6, Nat.le_refl _, hJb, rfl, rfl, HJ, Lib.hid rfl, Lib.hid (by rw [List.drop_of_length_le (by rw [HL.out.1]; exact Nat.le_refl _), List.append_nil]; exact Blk.fresh w 3 (nv (List.replicate 7 0)).toArray), Lib.hid (bal (brf w) _)⟩
  case round =>
    clear HJ
    obtain ⟨k, P, i, hk, hP, rfl, rfl, HP, HI, HB, HW⟩ := hrel
    cases k with
    | zero =>
      obtain rfl : i = -1 := HI.out
      have hB := HB.out
      rw [List.replicate_zero, List.drop_zero, List.nil_append] at hB
      have HB1 := Lib.hid hB
      clear hB HB HP HI
      go_wp2_with fail
      refine (param_any wr).mono ?_
      rintro e w1 ⟨gf, rfl, hf, hl, hb1⟩
      have HB2 := Lib.hid (bup HW.out hb1)
      have HR2 := Lib.hid (HB1.out.up hb1)
      have HF2 := Lib.hid hf
      have HL2 := Lib.hid (hl.less (show w.heap.size + 1 ≤ wr.heap.size from HB1.out.lt))
      clear hb1 hf hl
      go_wp2_with fail
      refine (newDecoder_any gf _).mono ?_
      rintro e w2 ⟨gd, rfl, hd, hb2⟩
      have HB3 := Lib.hid (bup HB2.out hb2)
      have HR3 := Lib.hid (HR2.out.up hb2)
      have HF3 := Lib.hid (HF2.out.up hb2)
      have HL3 := Lib.hid (HL2.out.up hb2)
      have HDD := Lib.hid hd
      clear hd hb2
      have hdec := decode_any FM FM_ok (by decide) gd gf w.heap.size 7 5 l w _ HDD.out HF3.out HL3.out HB3.out HR3.out (Nat.le_refl _) HL.out.2 HL.out.1 (by decide) (by decide) (by decide) (by decide)
      have hdec2 := hdec.mono (fun e w' ⟨h1, h2, h3⟩ => And.intro (h2 ws HD.out.1).1 (And.intro (h2 ws HD.out.1).2 h3))
      clear hdec
      go_wp2_with fail
      refine hdec2.mono ?_
      rintro e w3 ⟨rfl, hr4, hb4⟩
      have HR4 := Lib.hid hr4
      have HB4 := Lib.hid hb4
      clear hr4 hb4 hdec2
      go_wp2_with fail
      go_loopw [15, 16] (fun ov iv wr' => ∃ (out i : Nat), i ≤ 2 ∧ out < 1048576 ∧ ov = .int .i64 out ∧ iv = .int .i64 i ∧ Hid (out = joinN 0 (ws.take i)) ∧ Hid (Blk wr' w.heap.size 3 (nv ws).toArray) ∧ Hid (Below w.heap.size w wr')) (fun _ iv _ => 2 - (intOf iv).toNat)
      case atStart => exact ⟨0, 0, Nat.zero_le _, by decide, rfl, rfl, Lib.hid rfl, HR4, HB4⟩
      case round =>
        clear HR4 HB4
        rename World => wq
        obtain ⟨out, i, hi, ho, rfl, rfl, HO, HR, HV⟩ := hrel
        by_cases hlt : i < 2
        · have hil : i < ws.length := by rw [HD.out.2.1]; omega
          have cA : wq.cell? ⟨w.heap.size, i, none⟩ = some (.int .i64 ((ws[i] : Nat) : Int)) := by rw [HR.out.cell, nv_cell _ _ hil]
          have hx := HD.out.2.2 _ (List.getElem_mem hil)
          have hjn := take_joinN ws i hil
          rw [← HO.out] at hjn
          have hjb := joinN_lt (ws.take (i + 1)) 0 1 (fun x hm => HD.out.2.2 x (List.mem_of_mem_take hm)) (by decide)
          have hp : (16 : Nat) ^ (ws.take (i + 1)).length ≤ 16 ^ 4 := Nat.pow_le_pow_right (by decide) (by rw [List.length_take]; omega)
          have hnb : 16 * out + ws[i] < 1048576 := by omega
          have HJN := Lib.hid hjn.symm
          clear hjn hjb hp
          generalize ws[i] = x at *
          go_wp2
          go_roundw
          case rel => exact ⟨16 * out + x, i + 1, by omega, hnb, by go_num, by go_num, Lib.hid HJN.out, HR, HV⟩
          case measure => simp [intOf]; omega
        · obtain rfl : i = 2 := by omega
          go_wp2
          go_ret2
          refine ⟨?_, HV.out⟩
          show Ending.returned (.tuple #[.int .i64 (out : Int), .nilIface]) = _
          rw [← HO.out]
    | succ k =>
      obtain rfl : i = (k : Int) := by have := HI.out; omega
      have hkl : k < l.length := by rw [HL.out.1]; omega
      have hj := take_joinN l k hkl
      rw [← HP.out] at hj
      have hx := HL.out.2 _ (List.getElem_mem hkl)
      have hd : l.drop k = l[k] :: l.drop (k + 1) := List.drop_eq_getElem_cons hkl
      have hset := Gf.set_syn k l[k] (l.drop (k + 1))
      rw [← hd] at hset
      have hjt := join_bits P (by omega)
      obtain ⟨Q, hQ⟩ : ∃ Q, Q = joinN 0 (l.take k) := ⟨_, rfl⟩
      rw [← hQ] at hj
      have HQ := Lib.hid hQ; clear hQ hd
      have hpx : P % 16 = l[k] := by omega
      rw [hpx] at hjt
      generalize l[k] = x at *
      have hsh : (P : Int) / 16 = (Q : Int) := by omega
      have hQb : Q < 1099511627776 := by omega
      have cO : ∃ old : Nat, wr.cell? ⟨w.heap.size, k, none⟩ = some (.int .i64 (old : Int)) := ⟨_, by rw [HB.out.cell]; exact nv_cell _ _ (by rw [List.length_append, List.length_replicate]; omega)⟩
      obtain ⟨old, cO⟩ := cO
      have fO : wr.frozen? ⟨w.heap.size, k, none⟩ = false := HB.out.frozen _
      have hput := HB.out.put k (.int .i64 ((x : Nat) : Int))
      rw [nv_set, hset] at hput
      have HPUT := Lib.hid hput
      have HW2 := Lib.hid (HW.out.setCell (p := ⟨w.heap.size, k, none⟩) (Nat.le_refl _) (.int .i64 ((x : Nat) : Int)))
      clear hput hset hj hpx HP HB HI hkl
      go_wp2
      go_roundw
      case rel => exact ⟨k, Q, (k : Int) - 1, by omega, hQb, by go_num, by go_num, HQ, Lib.hid rfl, HPUT, HW2⟩
      case measure => simp [intOf]

set_option maxRecDepth 100000 in
set_option maxHeartbeats 4000000 in
theorem corrected_full (g : Nat) (l ws : List Nat) (w : World) (hg : w.cell? ⟨g, 1, none⟩ = some (.bool false)) (hl : l.length = 10) (hx : ∀ x ∈ l, x < 16) (hd : Gf.rsDec FM 6 l = some ws) (hwl : ws.length = 10) (hwx : ∀ x ∈ ws, x < 16) :
    Calls Try.prog 16 #[.pointer (some ⟨g, 0, none⟩), .int .i64 ((joinN 0 l : Nat) : Int), .bool false] w fun e w' => e = .returned (.tuple #[.int .i64 ((joinN 0 (ws.take 4) : Nat) : Int), .nilIface]) ∧ Below w.heap.size w w' := by
  have hmk : ∀ W : World, (Instr.makeSlice 24 (.int .i64 10) (.int .i64 10)).run Try.prog W = .ok (.slice (some ⟨W.heap.size, 0, none⟩) 10 10) (W.alloc (.cells (nv (List.replicate 10 0)).toArray 3)) := fun W => mk_ints 10 W (by omega)
  have HL := Lib.hid (And.intro hl hx); clear hl hx
  have HD := Lib.hid (And.intro hd (And.intro hwl hwx)); clear hd hwl hwx
  have hj0 : joinN 0 l = joinN 0 (l.take 10) := by rw [List.take_of_length_le (by rw [HL.out.1]; exact Nat.le_refl _)]
  obtain ⟨J, hJ⟩ : ∃ J, J = joinN 0 l := ⟨_, rfl⟩
  rw [← hJ] at hj0 ⊢
  have HJ := Lib.hid hj0; clear hj0 hJ
  go_enter Try.func16, Try.ntmps16
  go_wp2_with fail
  clear hmk
  go_loopw [1, 12] (fun v1 v12 wr => ∃ (k P : Nat) (i : Int), k ≤ 10 ∧ P < 1099511627776 ∧ v1 = .int .i64 P ∧ v12 = .int .i64 i ∧ Hid (P = joinN 0 (l.take k)) ∧ Hid (i = (k : Int) - 1) ∧ Hid (Blk wr w.heap.size 3 (nv (List.replicate k 0 ++ l.drop k)).toArray) ∧ Hid (Below w.heap.size w wr)) (fun _ v12 _ => ((intOf v12) + 1).toNat)
  case atStart =>
    have hJb : J < 1099511627776 := by
      rw [HJ.out]
      refine Nat.lt_of_lt_of_le (joinN_lt _ 0 1 (fun x hm => HL.out.2 x (List.mem_of_mem_take hm)) (by decide)) ?_
      rw [Nat.one_mul]
      exact Nat.le_trans (Nat.pow_le_pow_right (by decide) (show (l.take 10).length ≤ 10 by rw [List.length_take]; omega)) (by decide)
    exact ⟨10, J, 9, Nat.le_refl _, hJb, rfl, rfl, HJ, Lib.hid rfl, Lib.hid (by rw [List.drop_of_length_le (by rw [HL.out.1]; exact Nat.le_refl _), List.append_nil]; exact Blk.fresh w 3 (nv (List.replicate 10 0)).toArray), Lib.hid (bal (brf w) _)⟩
  case round =>
    clear HJ
    obtain ⟨k, P, i, hk, hP, rfl, rfl, HP, HI, HB, HW⟩ := hrel
    cases k with
    | zero =>
      obtain rfl : i = -1 := HI.out
      have hB := HB.out
      rw [List.replicate_zero, List.drop_zero, List.nil_append] at hB
      have HB1 := Lib.hid hB
      clear hB HB HP HI
      go_wp2_with fail
      refine (param_any wr).mono ?_
      rintro e w1 ⟨gf, rfl, hf, hl, hb1⟩
      have HB2 := Lib.hid (bup HW.out hb1)
      have HR2 := Lib.hid (HB1.out.up hb1)
      have HF2 := Lib.hid hf
      have HL2 := Lib.hid (hl.less (show w.heap.size + 1 ≤ wr.heap.size from HB1.out.lt))
      clear hb1 hf hl
      go_wp2_with fail
      refine (newDecoder_any gf _).mono ?_
      rintro e w2 ⟨gd, rfl, hd, hb2⟩
      have HB3 := Lib.hid (bup HB2.out hb2)
      have HR3 := Lib.hid (HR2.out.up hb2)
      have HF3 := Lib.hid (HF2.out.up hb2)
      have HL3 := Lib.hid (HL2.out.up hb2)
      have HDD := Lib.hid hd
      clear hd hb2
      have hdec := decode_any FM FM_ok (by decide) gd gf w.heap.size 10 6 l w _ HDD.out HF3.out HL3.out HB3.out HR3.out (Nat.le_refl _) HL.out.2 HL.out.1 (by decide) (by decide) (by decide) (by decide)
      have hdec2 := hdec.mono (fun e w' ⟨h1, h2, h3⟩ => And.intro (h2 ws HD.out.1).1 (And.intro (h2 ws HD.out.1).2 h3))
      clear hdec
      go_wp2_with fail
      refine hdec2.mono ?_
      rintro e w3 ⟨rfl, hr4, hb4⟩
      have HR4 := Lib.hid hr4
      have HB4 := Lib.hid hb4
      clear hr4 hb4 hdec2
      go_wp2_with fail
      go_loopw [15, 16] (fun ov iv wr' => ∃ (out i : Nat), i ≤ 4 ∧ out < 1048576 ∧ ov = .int .i64 out ∧ iv = .int .i64 i ∧ Hid (out = joinN 0 (ws.take i)) ∧ Hid (Blk wr' w.heap.size 3 (nv ws).toArray) ∧ Hid (Below w.heap.size w wr')) (fun _ iv _ => 4 - (intOf iv).toNat)
      case atStart => exact ⟨0, 0, Nat.zero_le _, by decide, rfl, rfl, Lib.hid rfl, HR4, HB4⟩
      case round =>
        clear HR4 HB4
        rename World => wq
        obtain ⟨out, i, hi, ho, rfl, rfl, HO, HR, HV⟩ := hrel
        by_cases hlt : i < 4
        · have hil : i < ws.length := by rw [HD.out.2.1]; omega
          have cA : wq.cell? ⟨w.heap.size, i, none⟩ = some (.int .i64 ((ws[i] : Nat) : Int)) := by rw [HR.out.cell, nv_cell _ _ hil]
          have hx := HD.out.2.2 _ (List.getElem_mem hil)
          have hjn := take_joinN ws i hil
          rw [← HO.out] at hjn
          have hjb := joinN_lt (ws.take (i + 1)) 0 1 (fun x hm => HD.out.2.2 x (List.mem_of_mem_take hm)) (by decide)
          have hp : (16 : Nat) ^ (ws.take (i + 1)).length ≤ 16 ^ 4 := Nat.pow_le_pow_right (by decide) (by rw [List.length_take]; omega)
          have hnb : 16 * out + ws[i] < 1048576 := by omega
          have HJN := Lib.hid hjn.symm
          clear hjn hjb hp
          generalize ws[i] = x at *
          go_wp2
          go_roundw
          case rel => exact ⟨16 * out + x, i + 1, by omega, hnb, by go_num, by go_num, Lib.hid HJN.out, HR, HV⟩
          case measure => simp [intOf]; omega
        · obtain rfl : i = 4 := by omega
          go_wp2
          go_ret2
          refine ⟨?_, HV.out⟩
          show Ending.returned (.tuple #[.int .i64 (out : Int), .nilIface]) = _
          rw [← HO.out]
    | succ k =>
      obtain rfl : i = (k : Int) := by have := HI.out; omega
      have hkl : k < l.length := by rw [HL.out.1]; omega
      have hj := take_joinN l k hkl
      rw [← HP.out] at hj
      have hx := HL.out.2 _ (List.getElem_mem hkl)
      have hd : l.drop k = l[k] :: l.drop (k + 1) := List.drop_eq_getElem_cons hkl
      have hset := Gf.set_syn k l[k] (l.drop (k + 1))
      rw [← hd] at hset
      have hjt := join_bits P (by omega)
      obtain ⟨Q, hQ⟩ : ∃ Q, Q = joinN 0 (l.take k) := ⟨_, rfl⟩
      rw [← hQ] at hj
      have HQ := Lib.hid hQ; clear hQ hd
      have hpx : P % 16 = l[k] := by omega
      rw [hpx] at hjt
      generalize l[k] = x at *
      have hsh : (P : Int) / 16 = (Q : Int) := by omega
      have hQb : Q < 1099511627776 := by omega
      have cO : ∃ old : Nat, wr.cell? ⟨w.heap.size, k, none⟩ = some (.int .i64 (old : Int)) := ⟨_, by rw [HB.out.cell]; exact nv_cell _ _ (by rw [List.length_append, List.length_replicate]; omega)⟩
      obtain ⟨old, cO⟩ := cO
      have fO : wr.frozen? ⟨w.heap.size, k, none⟩ = false := HB.out.frozen _
      have hput := HB.out.put k (.int .i64 ((x : Nat) : Int))
      rw [nv_set, hset] at hput
      have HPUT := Lib.hid hput
      have HW2 := Lib.hid (HW.out.setCell (p := ⟨w.heap.size, k, none⟩) (Nat.le_refl _) (.int .i64 ((x : Nat) : Int)))
      clear hput hset hj hpx HP HB HI hkl
      go_wp2
      go_roundw
      case rel => exact ⟨k, Q, (k : Int) - 1, by omega, hQb, by go_num, by go_num, HQ, Lib.hid rfl, HPUT, HW2⟩
      case measure => simp [intOf]

theorem corrected_any (c : Bool) (l ws : List Nat) (w : World) (hl : l.length = mAll c) (hx : ∀ x ∈ l, x < 16) (hd : Gf.rsDec FM (mAll c - mMany c) l = some ws) (hwl : ws.length = mAll c) (hwx : ∀ x ∈ ws, x < 16) :
    Calls Try.prog 12 #[.int .i64 ((joinN 0 l : Nat) : Int), .bool c] w fun e w' => e = .returned (.tuple #[.int .i64 ((joinN 0 (ws.take (mMany c)) : Nat) : Int), .nilIface]) ∧ Below w.heap.size w w' := by
  cases c
  · have H := Lib.hid (fun g W hg => corrected_full g l ws W hg hl hx hd hwl hwx)
    show Calls Try.prog 12 #[.int .i64 ((joinN 0 l : Nat) : Int), .bool false] w fun e w' => e = .returned (.tuple #[.int .i64 ((joinN 0 (ws.take 4) : Nat) : Int), .nilIface]) ∧ Below w.heap.size w w'
    clear hl hx hd hwl hwx
    generalize joinN 0 l = J at *
    generalize joinN 0 (ws.take 4) = K at *
    go_enter Try.func12, Try.ntmps12
    go_wp2_with fail
    refine (H.out _ _ (by rw [(Blk.fresh w _ _).cell]; rfl)).mono ?_
    rintro e w1 ⟨rfl, hb1⟩
    go_wp2
    go_ret2
    exact ⟨rfl, bup (bal (brf w) _) hb1⟩
  · have H := Lib.hid (fun g W hg => corrected_compact g l ws W hg hl hx hd hwl hwx)
    show Calls Try.prog 12 #[.int .i64 ((joinN 0 l : Nat) : Int), .bool true] w fun e w' => e = .returned (.tuple #[.int .i64 ((joinN 0 (ws.take 2) : Nat) : Int), .nilIface]) ∧ Below w.heap.size w w'
    clear hl hx hd hwl hwx
    generalize joinN 0 l = J at *
    generalize joinN 0 (ws.take 2) = K at *
    go_enter Try.func12, Try.ntmps12
    go_wp2_with fail
    refine (H.out _ _ (by rw [(Blk.fresh w _ _).cell]; rfl)).mono ?_
    rintro e w1 ⟨rfl, hb1⟩
    go_wp2
    go_ret2
    exact ⟨rfl, bup (bal (brf w) _) hb1⟩
theorem azMode_any (c : Bool) (l ws : List Nat) (w : World) (hl : l.length = mAll c) (hx : ∀ x ∈ l, x < 16) (hd : Gf.rsDec FM (mAll c - mMany c) l = some ws) (hwl : ws.length = mAll c) (hwx : ∀ x ∈ ws, x < 16) :
    Calls Try.prog 8 #[.int .i64 ((joinN 0 l : Nat) : Int), .bool c] w fun e w' => e = .returned (.tuple #[.int .i64 ((joinN 0 (ws.take (mMany c)) : Nat) : Int), .bool true]) ∧ Below w.heap.size w w' := by
  have H := Lib.hid (fun W => corrected_any c l ws W hl hx hd hwl hwx)
  clear hl hx hd hwl hwx
  generalize joinN 0 l = J at *
  generalize joinN 0 (ws.take (mMany c)) = K at *
  go_enter Try.func8, Try.ntmps8
  go_wp2_with fail
  refine (H.out w).mono ?_
  rintro e w1 ⟨rfl, hb1⟩
  go_wp2
  go_quiet (fail)
  go_wp2
  go_ret2
  exact ⟨rfl, bdn hb1 _⟩
end Go.Proofs.Ytibdeekgcbmofaa
