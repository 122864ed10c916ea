/-
  WALKS: the reader of bits: readCode, the tables, getCharacter, getTable. WALKS: the writer's tables: azOne, AZTable, azLatches, width.
-/
import Derived.Test.YtopfdmmimgnciaaGreatDoorV01
import Derived.Test.YtopfdmmimgnciaaGreatDoorV02
namespace Go.Proofs.YtopfdmmimgnciaaGreatDoor
open Go.RowKit

theorem take_drop_snoc (l : List Bool) (a j : Nat) (h : a + j < l.length) : (l.drop a).take (j + 1) = (l.drop a).take j ++ [l[a + j]] := by
  rw [List.take_succ_eq_append_getElem (by rw [List.length_drop]; omega)]
  simp
theorem or_one (r : Nat) (h : r < 4611686018427387904) : bits .or .i64 ((r : Int) * 2) 1 = ((2 * r + 1 : Nat) : Int) := by
  have e := i64_or (2 * r) 1 (by omega) (by decide)
  have e2 : 2 * r ||| 1 = 2 * r + 1 := by
    apply Nat.eq_of_testBit_eq
    intro i
    cases i with
    | zero => simp
    | succ i => rw [Nat.testBit_or, Nat.testBit_succ, Nat.testBit_succ, Nat.testBit_succ, show (1 : Nat) / 2 = 0 from rfl, Nat.zero_testBit, show (2 * r + 1) / 2 = 2 * r / 2 by omega, Bool.or_false]
  rw [e2] at e
  rw [show (r : Int) * 2 = ((2 * r : Nat) : Int) by omega]
  exact e
set_option maxRecDepth 100000 in
theorem readCode_any (v : Value) (l : List Bool) (a n B : Nat) (w : World) (hv : Rd w B v (bv l)) (h : a + n ≤ l.length) (hn : n ≤ 16) (hl : l.length ≤ 1000000) :
    Calls Tryz.prog 73 #[v, .int .i64 a, .int .i64 n] w fun e w' => e = .returned (.int .i64 (valL ((l.drop a).take n) : Nat)) ∧ w' = w := by
  obtain ⟨A, cap, rfl, hc1, hc2, hc3⟩ := hv
  rw [bv_len] at *
  unfold maxLen at hc2
  have HC := Lib.hid hc3; clear hc3
  go_enter Tryz.func73, Tryz.ntmps73
  go_wp2
  go_loop [7, 8] (fun rv iv => ∃ (j r : Nat), j ≤ n ∧ iv = .int .i64 ((a + j : Nat) : Int) ∧ rv = .int .i64 r ∧ r < 2 ^ j ∧ Hid (r = valL ((l.drop a).take j))) (fun _ iv => a + n - (intOf iv).toNat)
  case atStart => exact ⟨0, 0, Nat.zero_le _, by simp, rfl, by decide, Lib.hid (by simp [valL])⟩
  case round =>
    obtain ⟨j, r, hj, rfl, rfl, hr, HR⟩ := hrel
    have hp : 2 ^ j ≤ 2 ^ 16 := Nat.pow_le_pow_right (by decide) (by omega)
    by_cases hlt : j < n
    · obtain ⟨b, o, hA, -, hcell⟩ := HC.out (by omega)
      subst hA
      have hil : a + j < l.length := by omega
      have cB := hcell (a + j) _ (bv_at l (a + j) hil)
      have HS : Hid (valL ((l.drop a).take (j + 1)) = 2 * r + (l[a + j]).toNat) := Lib.hid (by rw [take_drop_snoc l a j hil, valL_snoc, HR.out])
      have hor := or_one r (by omega)
      have hp2 : 2 ^ (j + 1) = 2 * 2 ^ j := by rw [Nat.pow_succ]; omega
      have HP2 := Lib.hid hp2; clear hp2 hcell
      obtain ⟨i, hi⟩ : ∃ i, i = a + j := ⟨_, rfl⟩
      have HI := Lib.hid (show ((a + (j + 1) : Nat) : Int) = (i : Int) + 1 by omega)
      have hi1 : (i : Int) < (a : Int) + (n : Int) := by omega
      have hi2 : i ≤ 1000000 := by omega
      have hi3 : i < l.length := by omega
      generalize l[a + j] = bb at *
      rw [← hi] at cB ⊢
      have him : a + n - i = n - j := by omega
      have HM := Lib.hid him; clear hi him
      cases bb
      · go_wp2
        go_round
        case rel => exact ⟨j + 1, 2 * r, by omega, by rw [HI.out], by go_num, by have := HP2.out; omega, Lib.hid (by rw [HS.out]; rfl)⟩
        case measure => simp [intOf]; omega
      · go_wp2
        go_round
        case rel => exact ⟨j + 1, 2 * r + 1, by omega, by rw [HI.out], by go_num, by have := HP2.out; omega, Lib.hid (by rw [HS.out]; rfl)⟩
        case measure => simp [intOf]; omega
    · obtain rfl : j = n := by omega
      go_wp2
      go_ret
      exact ⟨ret_int (by rw [HR.out]), rfl⟩
/-- Strings as values. -/
def sv (l : List (List UInt8)) : List Value := l.map fun x => Value.string (ofL x)
theorem sv_at (l : List (List UInt8)) (i : Nat) (h : i < l.length) : (sv l).toArray[i]? = some (.string (ofL (l.getD i []))) := by
  simp [sv, h, List.getD]
set_option maxRecDepth 100000 in
theorem upper_any (w : World) : Calls Tryz.prog 108 #[] w fun e w' => ∃ g, e = .returned (.slice (some ⟨g, 0, none⟩) 32 32) ∧ Blk w' g 9 (sv (tabL 0)).toArray ∧ Below w.heap.size w w' := by
  go_enter Tryz.func108, Tryz.ntmps108
  go_wp2
  go_ret
  exact ⟨_, rfl, Blk.fresh w _ _, bal (brf w) _⟩
set_option maxRecDepth 100000 in
theorem lower_any (w : World) : Calls Tryz.prog 109 #[] w fun e w' => ∃ g, e = .returned (.slice (some ⟨g, 0, none⟩) 32 32) ∧ Blk w' g 9 (sv (tabL 1)).toArray ∧ Below w.heap.size w w' := by
  go_enter Tryz.func109, Tryz.ntmps109
  go_wp2
  go_ret
  exact ⟨_, rfl, Blk.fresh w _ _, bal (brf w) _⟩
set_option maxRecDepth 100000 in
theorem mixed_any (w : World) : Calls Tryz.prog 110 #[] w fun e w' => ∃ g, e = .returned (.slice (some ⟨g, 0, none⟩) 32 32) ∧ Blk w' g 9 (sv (tabL 2)).toArray ∧ Below w.heap.size w w' := by
  go_enter Tryz.func110, Tryz.ntmps110
  go_wp2
  go_ret
  exact ⟨_, rfl, Blk.fresh w _ _, bal (brf w) _⟩
set_option maxRecDepth 100000 in
theorem digit_any (w : World) : Calls Tryz.prog 112 #[] w fun e w' => ∃ g, e = .returned (.slice (some ⟨g, 0, none⟩) 16 16) ∧ Blk w' g 9 (sv (tabL 3)).toArray ∧ Below w.heap.size w w' := by
  go_enter Tryz.func112, Tryz.ntmps112
  go_wp2
  go_ret
  exact ⟨_, rfl, Blk.fresh w _ _, bal (brf w) _⟩
set_option maxRecDepth 100000 in
theorem punct_any (w : World) : Calls Tryz.prog 111 #[] w fun e w' => ∃ g, e = .returned (.slice (some ⟨g, 0, none⟩) 32 32) ∧ Blk w' g 9 (sv (tabL 4)).toArray ∧ Below w.heap.size w w' := by
  go_enter Tryz.func111, Tryz.ntmps111
  go_wp2
  go_ret
  exact ⟨_, rfl, Blk.fresh w _ _, bal (brf w) _⟩
set_option maxRecDepth 100000 in
theorem getChar_any (t c : Nat) (w : World) (ht : t < 5) (hc : c < 2 ^ sizeT t) :
    Calls Tryz.prog 78 #[.int .i64 t, .int .i64 c] w fun e w' => e = .returned (.tuple #[.string (ofL (tabS t c)), .nilIface]) ∧ Below w.heap.size w w' := by
  have h5 : t = 0 ∨ t = 1 ∨ t = 2 ∨ t = 3 ∨ t = 4 := by omega
  rcases h5 with rfl | rfl | rfl | rfl | rfl
  · have hc' : c < 32 := hc
    obtain ⟨S, hS⟩ : ∃ S, S = ofL (tabS 0 c) := ⟨_, rfl⟩
    rw [← hS]
    have HS := Lib.hid hS; clear hS
    go_enter Tryz.func78, Tryz.ntmps78
    go_wp2_with fail
    refine (upper_any _).mono ?_
    rintro e w1 ⟨g, rfl, hk, hb⟩
    have c0 : w1.cell? ⟨g, c, none⟩ = some (.string S) := by rw [HS.out, hk.cell, sv_at _ _ (by rw [tabL_len _ (by decide)]; exact hc)]; rfl
    have HB := Lib.hid hb; clear hk hb
    go_wp2
    go_ret2
    exact ⟨rfl, HB.out⟩
  · have hc' : c < 32 := hc
    obtain ⟨S, hS⟩ : ∃ S, S = ofL (tabS 1 c) := ⟨_, rfl⟩
    rw [← hS]
    have HS := Lib.hid hS; clear hS
    go_enter Tryz.func78, Tryz.ntmps78
    go_wp2_with fail
    refine (lower_any _).mono ?_
    rintro e w1 ⟨g, rfl, hk, hb⟩
    have c0 : w1.cell? ⟨g, c, none⟩ = some (.string S) := by rw [HS.out, hk.cell, sv_at _ _ (by rw [tabL_len _ (by decide)]; exact hc)]; rfl
    have HB := Lib.hid hb; clear hk hb
    go_wp2
    go_ret2
    exact ⟨rfl, HB.out⟩
  · have hc' : c < 32 := hc
    obtain ⟨S, hS⟩ : ∃ S, S = ofL (tabS 2 c) := ⟨_, rfl⟩
    rw [← hS]
    have HS := Lib.hid hS; clear hS
    go_enter Tryz.func78, Tryz.ntmps78
    go_wp2_with fail
    refine (mixed_any _).mono ?_
    rintro e w1 ⟨g, rfl, hk, hb⟩
    have c0 : w1.cell? ⟨g, c, none⟩ = some (.string S) := by rw [HS.out, hk.cell, sv_at _ _ (by rw [tabL_len _ (by decide)]; exact hc)]; rfl
    have HB := Lib.hid hb; clear hk hb
    go_wp2
    go_ret2
    exact ⟨rfl, HB.out⟩
  · have hc' : c < 16 := hc
    obtain ⟨S, hS⟩ : ∃ S, S = ofL (tabS 3 c) := ⟨_, rfl⟩
    rw [← hS]
    have HS := Lib.hid hS; clear hS
    go_enter Tryz.func78, Tryz.ntmps78
    go_wp2_with fail
    refine (digit_any _).mono ?_
    rintro e w1 ⟨g, rfl, hk, hb⟩
    have c0 : w1.cell? ⟨g, c, none⟩ = some (.string S) := by rw [HS.out, hk.cell, sv_at _ _ (by rw [tabL_len _ (by decide)]; exact hc)]; rfl
    have HB := Lib.hid hb; clear hk hb
    go_wp2
    go_ret2
    exact ⟨rfl, HB.out⟩
  · have hc' : c < 32 := hc
    obtain ⟨S, hS⟩ : ∃ S, S = ofL (tabS 4 c) := ⟨_, rfl⟩
    rw [← hS]
    have HS := Lib.hid hS; clear hS
    go_enter Tryz.func78, Tryz.ntmps78
    go_wp2_with fail
    refine (punct_any _).mono ?_
    rintro e w1 ⟨g, rfl, hk, hb⟩
    have c0 : w1.cell? ⟨g, c, none⟩ = some (.string S) := by rw [HS.out, hk.cell, sv_at _ _ (by rw [tabL_len _ (by decide)]; exact hc)]; rfl
    have HB := Lib.hid hb; clear hk hb
    go_wp2
    go_ret2
    exact ⟨rfl, HB.out⟩
theorem getTable_any (a : UInt8) (w : World) (h : a = 76 ∨ a = 80 ∨ a = 77 ∨ a = 68 ∨ a = 66 ∨ a = 85) : Calls Tryz.prog 81 #[.int .u8 (a.toNat : Int)] w fun e w' => e = .returned (.int .i64 (modeT a : Nat)) ∧ w' = w := by
  rcases h with rfl | rfl | rfl | rfl | rfl | rfl
  · go_enter Tryz.func81, Tryz.ntmps81
    go_wp2
    go_ret
    exact ⟨rfl, rfl⟩
  · go_enter Tryz.func81, Tryz.ntmps81
    go_wp2
    go_ret
    exact ⟨rfl, rfl⟩
  · go_enter Tryz.func81, Tryz.ntmps81
    go_wp2
    go_ret
    exact ⟨rfl, rfl⟩
  · go_enter Tryz.func81, Tryz.ntmps81
    go_wp2
    go_ret
    exact ⟨rfl, rfl⟩
  · go_enter Tryz.func81, Tryz.ntmps81
    go_wp2
    go_ret
    exact ⟨rfl, rfl⟩
  · go_enter Tryz.func81, Tryz.ntmps81
    go_wp2
    go_ret
    exact ⟨rfl, rfl⟩
end Go.Proofs.YtopfdmmimgnciaaGreatDoor
namespace Go.Proofs.YtopfdmmimgnciaaGreatDoor
open Go.RowKit

theorem info_str : (Tryz.prog.info? 9).map (fun i => (i.zero, i.size, i.bytes)) = some (some (.string ⟨#[]⟩), 1, 16) := by kernel_rfl
theorem sv_len (l : List (List UInt8)) : (sv l).length = l.length := by simp [sv]
theorem sv_app (a b : List (List UInt8)) : sv (a ++ b) = sv a ++ sv b := by simp [sv]
theorem sv_one (l : List (List UInt8)) : ∀ u ∈ sv l, u.oneCell' = true := fun u hu => by
  simp only [sv, List.mem_map] at hu
  obtain ⟨x, _, rfl⟩ := hu
  rfl
theorem sv_atL (l : List (List UInt8)) (i : Nat) (h : i < l.length) : (sv l)[i]? = some (.string (ofL l[i])) := by simp [sv, h]
/-- A whole block as a row of one's own. -/
theorem own_blk {w : World} {g base : Nat} {e : TypeId} {xs : List Value} (h : Blk w g e xs.toArray) (hb : base ≤ g) (hn : xs.length ≤ maxLen) : w.ownsRow base e 1 (.slice (some ⟨g, 0, none⟩) xs.length xs.length) xs.length xs :=
  ⟨by simp, .inr ⟨g, xs.length, _, rfl, hb, h, Nat.le_refl _, hn, by simp, by simp⟩⟩
theorem one_at (s : ByteArray) (i : Nat) (h : i < s.size) : s.extract i (i + 1) = ofL [s.data.toList[i]'(by simpa using h)] := by
  apply ByteArray.ext
  rw [← Array.toList_inj]
  have : (s.extract i (i + 1)).data.toList = (s.data.toList.take (i + 1)).drop i := by
    simp [ByteArray.data_extract, Array.toList_extract, List.extract, List.drop_take]
  rw [this, List.take_succ_eq_append_getElem (by simpa using h), List.drop_append_of_le_length (by simp; omega), List.drop_eq_nil_of_le (by simp; omega)]
  simp [ofL]
def onesS (l : List UInt8) : List (List UInt8) := l.map fun b => [b]
set_option maxRecDepth 100000 in
set_option maxHeartbeats 2000000 in
theorem azOne_any (s : ByteArray) (l : List UInt8) (w : World) (hl : s.data.toList = l) (hs : l.length ≤ 100) :
    Calls Tryz.prog 84 #[.string s] w fun e w' => ∃ v, e = .returned v ∧ RdT w' 9 v (sv (onesS l)) ∧ Below w.heap.size w w' := by
  obtain ⟨i0, hi0, hz0, hz1, hz2⟩ := info_parts info_str
  have hsz : s.size = l.length := by rw [← hl]; simp
  have hs1 : s.size ≤ 100 := by omega
  have HL := Lib.hid hl
  have HSZ := Lib.hid hsz
  clear hl hsz hs
  go_enter Tryz.func84, Tryz.ntmps84
  go_wp2_with fail
  go_loopw [3, 4] (fun vv iv wr => ∃ (i : Nat), i ≤ s.size ∧ iv = .int .i64 (i : Int) ∧ Hid (wr.ownsRow w.heap.size 9 1 vv i (sv (onesS (l.take i)))) ∧ Hid (Below w.heap.size w wr)) (fun _ iv _ => s.size - (intOf iv).toNat)
  case atStart => exact ⟨0, Nat.zero_le _, rfl, Lib.hid (own_nil _ _ _), Lib.hid (brf w)⟩
  case round =>
    obtain ⟨i, hi, rfl, HO, HW⟩ := hrel
    by_cases hlt : i < s.size
    · have hil : i < l.length := by rw [← HSZ.out]; exact hlt
      have hx := one_at s i hlt
      have hx2 : s.data.toList[i]'(by simpa using hlt) = l[i] := by simp only [HL.out]
      rw [hx2] at hx
      have hnx : onesS (l.take (i + 1)) = onesS (l.take i) ++ [[l[i]]] := by unfold onesS; rw [List.take_succ_eq_append_getElem hil, List.map_append]; rfl
      have HNX := Lib.hid hnx
      have HXX := Lib.hid hx
      clear hnx hx2 hx
      have hsz := HW.out.size
      go_wp2_with (at_builtin; refine list_app_rd _ rfl _ _ 111 rfl w.heap.size 9 i0 _ 16 Tryz.underlying111 hi0 hz0 hz1 hz2 rfl _ i (sv (onesS (l.take i))) rfl (HO.out.alloc _) _ _ [.string (s.extract i (i + 1))] rfl (Rd.one rfl 9 _) (fun u hu => by rw [List.mem_singleton] at hu; rw [hu]; rfl) (by simp only [List.length_singleton]; unfold maxLen; omega) (by simp only [List.length_singleton]; omega) (Nat.le_trans hsz (by simp)) ?_; intro v5 w5 ho5 hg5)
      have HB5 := Lib.hid (below_grown (bal HW.out (.cells #[.string (s.extract i (i + 1))] 9)) hg5 (HO.out.alloc _) (Nat.le_trans hsz (by simp)))
      have hnx : sv (onesS (l.take i)) ++ [.string (s.extract i (i + 1))] = sv (onesS (l.take (i + 1))) := by rw [HNX.out, sv_app, HXX.out]; rfl
      rw [List.length_singleton, hnx] at ho5
      have HO5 := Lib.hid ho5; clear ho5 hg5 hnx
      go_wp2
      go_roundw
      case rel => exact ⟨i + 1, by omega, by go_num, HO5, HB5⟩
      case measure => simp [intOf]; omega
    · obtain rfl : i = s.size := by omega
      have hv := RdT.of_own HO.out
      rw [List.take_of_length_le (by rw [HSZ.out]; exact Nat.le_refl _)] at hv
      have HV := Lib.hid hv; clear hv
      go_wp2
      go_ret
      exact ⟨_, rfl, HV.out, HW.out⟩
theorem rd_lit (w : World) (xs : List (List UInt8)) (h : xs.length ≤ 100) : Rd (w.alloc (.cells (sv xs).toArray 9)) (w.heap.size + 1) (.slice (some ⟨w.heap.size, 0, none⟩) xs.length xs.length) (sv xs) := by
  have h9 := Rd.of_blk (xs := sv xs) (Blk.fresh w 9 (sv xs).toArray) rfl (Nat.le_refl _) (by rw [sv_len]; unfold maxLen; omega)
  rw [show (w.alloc (.cells (sv xs).toArray 9)).heap.size = w.heap.size + 1 by simp, sv_len] at h9
  exact h9
set_option maxRecDepth 100000 in
set_option maxHeartbeats 2000000 in
theorem azTable_any (m : Nat) (hm : m < 5) (w : World) :
    Calls Tryz.prog 57 #[.int .i64 m] w fun e w' => ∃ v, e = .returned v ∧ RdT w' 9 v (sv (wtab m)) ∧ Below w.heap.size w w' := by
  obtain ⟨i0, hi0, hz0, hz1, hz2⟩ := info_parts info_str
  have h5 : m = 0 ∨ m = 1 ∨ m = 2 ∨ m = 3 ∨ m = 4 := by omega
  rcases h5 with rfl | rfl | rfl | rfl | rfl
  · have hone := fun w' => azOne_any (ofL [65, 66, 67, 68, 69, 70, 71, 72, 73, 74, 75, 76, 77, 78, 79, 80, 81, 82, 83, 84, 85, 86, 87, 88, 89, 90]) ([65, 66, 67, 68, 69, 70, 71, 72, 73, 74, 75, 76, 77, 78, 79, 80, 81, 82, 83, 84, 85, 86, 87, 88, 89, 90]) w' (ofL_data _) (by decide)
    go_enter Tryz.func57, Tryz.ntmps57
    go_wp2_with fail
    refine (hone _).mono ?_
    rintro e w2 ⟨v, rfl, hv, hb⟩
    clear hone
    have hO2 : w2.ownsRow w.heap.size 9 1 (.slice (some ⟨w.heap.size, 0, none⟩) 2 2) 2 (sv [[], [32]]) := own_up (own_blk (xs := sv [[], [32]]) (Blk.fresh w 9 _) (Nat.le_refl _) (by decide)) hb
    have HO2 := Lib.hid hO2
    have HB := Lib.hid (bup (bal (brf w) (.cells (sv [[], [32]]).toArray 9)) hb)
    have HV := Lib.hid hv
    have hsz := HB.out.size
    clear hO2 hb hv
    go_wp2_with (at_builtin; (first | (refine list_app_rd w2 rfl _ _ 111 rfl w.heap.size 9 i0 _ 16 Tryz.underlying111 hi0 hz0 hz1 hz2 rfl _ 2 (sv [[], [32]]) rfl HO2.out _ _ (sv (onesS [65, 66, 67, 68, 69, 70, 71, 72, 73, 74, 75, 76, 77, 78, 79, 80, 81, 82, 83, 84, 85, 86, 87, 88, 89, 90])) rfl HV.out.rd (sv_one _) (by decide) (by decide) hsz ?_; intro v5 w5 ho5 hg5) | (refine list_app_rd (w5.alloc (.cells (sv [[], [], [], []]).toArray 9)) rfl _ _ 111 rfl w.heap.size 9 i0 _ 16 Tryz.underlying111 hi0 hz0 hz1 hz2 rfl v5 (2 + (sv (onesS [65, 66, 67, 68, 69, 70, 71, 72, 73, 74, 75, 76, 77, 78, 79, 80, 81, 82, 83, 84, 85, 86, 87, 88, 89, 90])).length) (sv [[], [32]] ++ sv (onesS [65, 66, 67, 68, 69, 70, 71, 72, 73, 74, 75, 76, 77, 78, 79, 80, 81, 82, 83, 84, 85, 86, 87, 88, 89, 90])) rfl (ho5.alloc _) _ (.slice (some ⟨w5.heap.size, 0, none⟩) 4 4) (sv [[], [], [], []]) rfl (rd_lit w5 [[], [], [], []] (by decide)) (sv_one _) (by decide) (by decide) (Nat.le_trans (Nat.le_trans hsz hg5.size) (by simp)) ?_; intro v6 w6 ho6 hg6)))
    have HB5 := below_grown HB.out hg5 HO2.out hsz
    have hsz5 := HB5.size
    have HB6 := Lib.hid (below_grown (bal HB5 (.cells (sv [[], [], [], []]).toArray 9)) hg6 (ho5.alloc _) (Nat.le_trans hsz5 (by simp)))
    have HO6 := Lib.hid (RdT.of_own ho6)
    clear ho6 hg6 ho5 hg5 HB5 HO2 HV HB
    go_wp2
    go_ret
    exact ⟨_, rfl, HO6.out, HB6.out⟩
  · have hone := fun w' => azOne_any (ofL [97, 98, 99, 100, 101, 102, 103, 104, 105, 106, 107, 108, 109, 110, 111, 112, 113, 114, 115, 116, 117, 118, 119, 120, 121, 122]) ([97, 98, 99, 100, 101, 102, 103, 104, 105, 106, 107, 108, 109, 110, 111, 112, 113, 114, 115, 116, 117, 118, 119, 120, 121, 122]) w' (ofL_data _) (by decide)
    go_enter Tryz.func57, Tryz.ntmps57
    go_wp2_with fail
    refine (hone _).mono ?_
    rintro e w2 ⟨v, rfl, hv, hb⟩
    clear hone
    have hO2 : w2.ownsRow w.heap.size 9 1 (.slice (some ⟨w.heap.size, 0, none⟩) 2 2) 2 (sv [[], [32]]) := own_up (own_blk (xs := sv [[], [32]]) (Blk.fresh w 9 _) (Nat.le_refl _) (by decide)) hb
    have HO2 := Lib.hid hO2
    have HB := Lib.hid (bup (bal (brf w) (.cells (sv [[], [32]]).toArray 9)) hb)
    have HV := Lib.hid hv
    have hsz := HB.out.size
    clear hO2 hb hv
    go_wp2_with (at_builtin; (first | (refine list_app_rd w2 rfl _ _ 111 rfl w.heap.size 9 i0 _ 16 Tryz.underlying111 hi0 hz0 hz1 hz2 rfl _ 2 (sv [[], [32]]) rfl HO2.out _ _ (sv (onesS [97, 98, 99, 100, 101, 102, 103, 104, 105, 106, 107, 108, 109, 110, 111, 112, 113, 114, 115, 116, 117, 118, 119, 120, 121, 122])) rfl HV.out.rd (sv_one _) (by decide) (by decide) hsz ?_; intro v5 w5 ho5 hg5) | (refine list_app_rd (w5.alloc (.cells (sv [[], [], [], []]).toArray 9)) rfl _ _ 111 rfl w.heap.size 9 i0 _ 16 Tryz.underlying111 hi0 hz0 hz1 hz2 rfl v5 (2 + (sv (onesS [97, 98, 99, 100, 101, 102, 103, 104, 105, 106, 107, 108, 109, 110, 111, 112, 113, 114, 115, 116, 117, 118, 119, 120, 121, 122])).length) (sv [[], [32]] ++ sv (onesS [97, 98, 99, 100, 101, 102, 103, 104, 105, 106, 107, 108, 109, 110, 111, 112, 113, 114, 115, 116, 117, 118, 119, 120, 121, 122])) rfl (ho5.alloc _) _ (.slice (some ⟨w5.heap.size, 0, none⟩) 4 4) (sv [[], [], [], []]) rfl (rd_lit w5 [[], [], [], []] (by decide)) (sv_one _) (by decide) (by decide) (Nat.le_trans (Nat.le_trans hsz hg5.size) (by simp)) ?_; intro v6 w6 ho6 hg6)))
    have HB5 := below_grown HB.out hg5 HO2.out hsz
    have hsz5 := HB5.size
    have HB6 := Lib.hid (below_grown (bal HB5 (.cells (sv [[], [], [], []]).toArray 9)) hg6 (ho5.alloc _) (Nat.le_trans hsz5 (by simp)))
    have HO6 := Lib.hid (RdT.of_own ho6)
    clear ho6 hg6 ho5 hg5 HB5 HO2 HV HB
    go_wp2
    go_ret
    exact ⟨_, rfl, HO6.out, HB6.out⟩
  · have hone := fun w' => azOne_any (ofL [1, 2, 3, 4, 5, 6, 7, 8, 9, 10, 11, 12, 13, 27, 28, 29, 30, 31, 64, 92, 94, 95, 96, 124, 126, 127]) ([1, 2, 3, 4, 5, 6, 7, 8, 9, 10, 11, 12, 13, 27, 28, 29, 30, 31, 64, 92, 94, 95, 96, 124, 126, 127]) w' (ofL_data _) (by decide)
    go_enter Tryz.func57, Tryz.ntmps57
    go_wp2_with fail
    refine (hone _).mono ?_
    rintro e w2 ⟨v, rfl, hv, hb⟩
    clear hone
    have hO2 : w2.ownsRow w.heap.size 9 1 (.slice (some ⟨w.heap.size, 0, none⟩) 2 2) 2 (sv [[], [32]]) := own_up (own_blk (xs := sv [[], [32]]) (Blk.fresh w 9 _) (Nat.le_refl _) (by decide)) hb
    have HO2 := Lib.hid hO2
    have HB := Lib.hid (bup (bal (brf w) (.cells (sv [[], [32]]).toArray 9)) hb)
    have HV := Lib.hid hv
    have hsz := HB.out.size
    clear hO2 hb hv
    go_wp2_with (at_builtin; (first | (refine list_app_rd w2 rfl _ _ 111 rfl w.heap.size 9 i0 _ 16 Tryz.underlying111 hi0 hz0 hz1 hz2 rfl _ 2 (sv [[], [32]]) rfl HO2.out _ _ (sv (onesS [1, 2, 3, 4, 5, 6, 7, 8, 9, 10, 11, 12, 13, 27, 28, 29, 30, 31, 64, 92, 94, 95, 96, 124, 126, 127])) rfl HV.out.rd (sv_one _) (by decide) (by decide) hsz ?_; intro v5 w5 ho5 hg5) | (refine list_app_rd (w5.alloc (.cells (sv [[], [], [], []]).toArray 9)) rfl _ _ 111 rfl w.heap.size 9 i0 _ 16 Tryz.underlying111 hi0 hz0 hz1 hz2 rfl v5 (2 + (sv (onesS [1, 2, 3, 4, 5, 6, 7, 8, 9, 10, 11, 12, 13, 27, 28, 29, 30, 31, 64, 92, 94, 95, 96, 124, 126, 127])).length) (sv [[], [32]] ++ sv (onesS [1, 2, 3, 4, 5, 6, 7, 8, 9, 10, 11, 12, 13, 27, 28, 29, 30, 31, 64, 92, 94, 95, 96, 124, 126, 127])) rfl (ho5.alloc _) _ (.slice (some ⟨w5.heap.size, 0, none⟩) 4 4) (sv [[], [], [], []]) rfl (rd_lit w5 [[], [], [], []] (by decide)) (sv_one _) (by decide) (by decide) (Nat.le_trans (Nat.le_trans hsz hg5.size) (by simp)) ?_; intro v6 w6 ho6 hg6)))
    have HB5 := below_grown HB.out hg5 HO2.out hsz
    have hsz5 := HB5.size
    have HB6 := Lib.hid (below_grown (bal HB5 (.cells (sv [[], [], [], []]).toArray 9)) hg6 (ho5.alloc _) (Nat.le_trans hsz5 (by simp)))
    have HO6 := Lib.hid (RdT.of_own ho6)
    clear ho6 hg6 ho5 hg5 HB5 HO2 HV HB
    go_wp2
    go_ret
    exact ⟨_, rfl, HO6.out, HB6.out⟩
  · have hone := fun w' => azOne_any (ofL [33, 34, 35, 36, 37, 38, 39, 40, 41, 42, 43, 44, 45, 46, 47, 58, 59, 60, 61, 62, 63, 91, 93, 123, 125]) ([33, 34, 35, 36, 37, 38, 39, 40, 41, 42, 43, 44, 45, 46, 47, 58, 59, 60, 61, 62, 63, 91, 93, 123, 125]) w' (ofL_data _) (by decide)
    go_enter Tryz.func57, Tryz.ntmps57
    go_wp2_with fail
    refine (hone _).mono ?_
    rintro e w2 ⟨v, rfl, hv, hb⟩
    clear hone
    have hO2 : w2.ownsRow w.heap.size 9 1 (.slice (some ⟨w.heap.size, 0, none⟩) 6 6) 6 (sv [[], [13], [13, 10], [46, 32], [44, 32], [58, 32]]) := own_up (own_blk (xs := sv [[], [13], [13, 10], [46, 32], [44, 32], [58, 32]]) (Blk.fresh w 9 _) (Nat.le_refl _) (by decide)) hb
    have HO2 := Lib.hid hO2
    have HB := Lib.hid (bup (bal (brf w) (.cells (sv [[], [13], [13, 10], [46, 32], [44, 32], [58, 32]]).toArray 9)) hb)
    have HV := Lib.hid hv
    have hsz := HB.out.size
    clear hO2 hb hv
    go_wp2_with (at_builtin; (first | (refine list_app_rd w2 rfl _ _ 111 rfl w.heap.size 9 i0 _ 16 Tryz.underlying111 hi0 hz0 hz1 hz2 rfl _ 6 (sv [[], [13], [13, 10], [46, 32], [44, 32], [58, 32]]) rfl HO2.out _ _ (sv (onesS [33, 34, 35, 36, 37, 38, 39, 40, 41, 42, 43, 44, 45, 46, 47, 58, 59, 60, 61, 62, 63, 91, 93, 123, 125])) rfl HV.out.rd (sv_one _) (by decide) (by decide) hsz ?_; intro v5 w5 ho5 hg5) | (refine list_app_rd (w5.alloc (.cells (sv [[]]).toArray 9)) rfl _ _ 111 rfl w.heap.size 9 i0 _ 16 Tryz.underlying111 hi0 hz0 hz1 hz2 rfl v5 (6 + (sv (onesS [33, 34, 35, 36, 37, 38, 39, 40, 41, 42, 43, 44, 45, 46, 47, 58, 59, 60, 61, 62, 63, 91, 93, 123, 125])).length) (sv [[], [13], [13, 10], [46, 32], [44, 32], [58, 32]] ++ sv (onesS [33, 34, 35, 36, 37, 38, 39, 40, 41, 42, 43, 44, 45, 46, 47, 58, 59, 60, 61, 62, 63, 91, 93, 123, 125])) rfl (ho5.alloc _) _ (.slice (some ⟨w5.heap.size, 0, none⟩) 1 1) (sv [[]]) rfl (rd_lit w5 [[]] (by decide)) (sv_one _) (by decide) (by decide) (Nat.le_trans (Nat.le_trans hsz hg5.size) (by simp)) ?_; intro v6 w6 ho6 hg6)))
    have HB5 := below_grown HB.out hg5 HO2.out hsz
    have hsz5 := HB5.size
    have HB6 := Lib.hid (below_grown (bal HB5 (.cells (sv [[]]).toArray 9)) hg6 (ho5.alloc _) (Nat.le_trans hsz5 (by simp)))
    have HO6 := Lib.hid (RdT.of_own ho6)
    clear ho6 hg6 ho5 hg5 HB5 HO2 HV HB
    go_wp2
    go_ret
    exact ⟨_, rfl, HO6.out, HB6.out⟩
  · have hone := fun w' => azOne_any (ofL [48, 49, 50, 51, 52, 53, 54, 55, 56, 57, 44, 46]) ([48, 49, 50, 51, 52, 53, 54, 55, 56, 57, 44, 46]) w' (ofL_data _) (by decide)
    go_enter Tryz.func57, Tryz.ntmps57
    go_wp2_with fail
    refine (hone _).mono ?_
    rintro e w2 ⟨v, rfl, hv, hb⟩
    clear hone
    have hO2 : w2.ownsRow w.heap.size 9 1 (.slice (some ⟨w.heap.size, 0, none⟩) 2 2) 2 (sv [[], [32]]) := own_up (own_blk (xs := sv [[], [32]]) (Blk.fresh w 9 _) (Nat.le_refl _) (by decide)) hb
    have HO2 := Lib.hid hO2
    have HB := Lib.hid (bup (bal (brf w) (.cells (sv [[], [32]]).toArray 9)) hb)
    have HV := Lib.hid hv
    have hsz := HB.out.size
    clear hO2 hb hv
    go_wp2_with (at_builtin; (first | (refine list_app_rd w2 rfl _ _ 111 rfl w.heap.size 9 i0 _ 16 Tryz.underlying111 hi0 hz0 hz1 hz2 rfl _ 2 (sv [[], [32]]) rfl HO2.out _ _ (sv (onesS [48, 49, 50, 51, 52, 53, 54, 55, 56, 57, 44, 46])) rfl HV.out.rd (sv_one _) (by decide) (by decide) hsz ?_; intro v5 w5 ho5 hg5) | (refine list_app_rd (w5.alloc (.cells (sv [[], []]).toArray 9)) rfl _ _ 111 rfl w.heap.size 9 i0 _ 16 Tryz.underlying111 hi0 hz0 hz1 hz2 rfl v5 (2 + (sv (onesS [48, 49, 50, 51, 52, 53, 54, 55, 56, 57, 44, 46])).length) (sv [[], [32]] ++ sv (onesS [48, 49, 50, 51, 52, 53, 54, 55, 56, 57, 44, 46])) rfl (ho5.alloc _) _ (.slice (some ⟨w5.heap.size, 0, none⟩) 2 2) (sv [[], []]) rfl (rd_lit w5 [[], []] (by decide)) (sv_one _) (by decide) (by decide) (Nat.le_trans (Nat.le_trans hsz hg5.size) (by simp)) ?_; intro v6 w6 ho6 hg6)))
    have HB5 := below_grown HB.out hg5 HO2.out hsz
    have hsz5 := HB5.size
    have HB6 := Lib.hid (below_grown (bal HB5 (.cells (sv [[], []]).toArray 9)) hg6 (ho5.alloc _) (Nat.le_trans hsz5 (by simp)))
    have HO6 := Lib.hid (RdT.of_own ho6)
    clear ho6 hg6 ho5 hg5 HB5 HO2 HV HB
    go_wp2
    go_ret
    exact ⟨_, rfl, HO6.out, HB6.out⟩
end Go.Proofs.YtopfdmmimgnciaaGreatDoor
