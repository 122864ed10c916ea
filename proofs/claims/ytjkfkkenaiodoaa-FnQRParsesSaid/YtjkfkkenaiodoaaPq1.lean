/-
  PLAIN: bytes as bits; what data words say. WALKS: spec.qrAdd, QRBitsOf, qrTake.
-/
import Derived.Test.YtjkfkkenaiodoaaBs3
import Derived.Test.YtjkfkkenaiodoaaRw
import Derived.Test.YtjkfkkenaiodoaaFill
namespace Go.Proofs.Ytjkfkkenaiodoaa
open Go.RowKit

/-- The bits of the first bytes. -/
def bitsK (bs : List Nat) (i : Nat) : List Bool := (List.range (8 * i)).map fun p => bitB bs p == 1
theorem bitsK_len (bs : List Nat) (i : Nat) : (bitsK bs i).length = 8 * i := by simp [bitsK]
theorem bitsK_succ (bs : List Nat) (i : Nat) : bitsK bs (i + 1) = bitsK bs i ++ (List.range 8).map (fun k => bs.getD i 0 / 2 ^ (7 - k) % 2 == 1) := by
  unfold bitsK
  rw [show 8 * (i + 1) = 8 * i + 8 by omega, List.range_add, List.map_append, List.map_map]
  congr 1
  refine List.map_congr_left (fun k hk => ?_)
  have hk8 := List.mem_range.1 hk
  simp only [Function.comp]
  unfold bitB
  rw [show (8 * i + k) / 8 = i by omega, show (8 * i + k) % 8 = k by omega]
theorem bitsK_at (bs : List Nat) (i j : Nat) (h : j < 8 * i) : (bv (bitsK bs i))[j]? = some (.bool (bitB bs j == 1)) := by
  unfold bitsK bv
  rw [List.getElem?_map, List.getElem?_map, List.getElem?_range h]; rfl
theorem shr_one (N k : Nat) (h : N < 9223372036854775808) : (bits .and .i64 ((N : Int) / 2 ^ k) 1 == 1) = ((N / 2 ^ k) % 2 == 1) := by
  have e : (N : Int) / 2 ^ k = ((N / 2 ^ k : Nat) : Int) := by simp
  have hl : N / 2 ^ k < 9223372036854775808 := Nat.lt_of_le_of_lt (Nat.div_le_self _ _) h
  have := i64_and (N / 2 ^ k) 1 hl (by decide)
  rw [e, show (1 : Int) = ((1 : Nat) : Int) from rfl, this, Nat.and_one_is_mod]
  rw [Bool.eq_iff_iff]; simp; omega
set_option maxRecDepth 100000 in
set_option maxHeartbeats 2000000 in
theorem qrAdd_any (v : Value) (L : List Bool) (n N base B : Nat) (w : World) (h : w.ownsRow base 4 1 v n (bv L)) (hN : N < 256) (hn : n ≤ 100000000000) (hB : B ≤ base) (hbs : base ≤ w.heap.size) :
    Calls Try.prog 19 #[v, .int .i64 N, .int .i64 8] w fun e w' => ∃ v', e = .returned v' ∧ w'.ownsRow base 4 1 v' (n + 8) (bv (L ++ (List.range 8).map (fun k => N / 2 ^ (7 - k) % 2 == 1))) ∧ Below B w w' ∧ w.heap.size ≤ w'.heap.size := by
  obtain ⟨i0, hi0, hz0, hz1, hz2⟩ := info_parts info_bool
  have HO := Lib.hid h; clear h
  go_enter Try.func19, Try.ntmps19
  go_wp2_with fail
  go_loopw [0, 7] (fun lv kv wr => ∃ (j : Nat), j ≤ 8 ∧ kv = .int .i64 ((7 : Int) - j) ∧ Hid (wr.ownsRow base 4 1 lv (n + j) (bv (L ++ (List.range j).map (fun k => N / 2 ^ (7 - k) % 2 == 1)))) ∧ Hid (Below B w wr ∧ w.heap.size ≤ wr.heap.size)) (fun _ kv _ => (intOf kv + 1).toNat)
  case atStart => exact ⟨0, Nat.zero_le _, by simp, by simpa using HO, Lib.hid ⟨Below.refl _ _, Nat.le_refl _⟩⟩
  case round =>
    clear HO
    obtain ⟨j, hj, rfl, HO, HB⟩ := hrel
    rename World => wr
    by_cases hlt : j < 8
    · obtain ⟨q, hq⟩ : ∃ q, q = 7 - j := ⟨_, rfl⟩
      have e1 : (7 : Int) - (j : Int) = (q : Int) := by omega
      rw [e1]
      have HQ := Lib.hid hq
      have hq7 : q ≤ 7 := by omega
      have HL : Hid ((List.range (j + 1)).map (fun k => N / 2 ^ (7 - k) % 2 == 1) = (List.range j).map (fun k => N / 2 ^ (7 - k) % 2 == 1) ++ [N / 2 ^ q % 2 == 1]) := Lib.hid (by rw [List.range_succ, List.map_append, hq]; rfl)
      obtain ⟨bb, hbb⟩ : ∃ b, b = (N / 2 ^ q % 2 == 1) := ⟨_, rfl⟩
      have eb := shr_one N q (by omega)
      rw [← hbb] at eb HL
      clear hbb e1 hq
      go_wp2_with (with_reducible refine stop_at (o := ⟨some 21, _, _, _, _, _⟩) ?_)
      refine Lib.hid ?_
      clear eb
      refine list_app_rd _ rfl _ _ 37 rfl base 4 i0 _ 1 Try.underlying37 hi0 hz0 hz1 hz2 rfl _ (n + j) _ rfl (own_up HO.out (bal (brf wr) _)) _ _ [.bool bb] rfl (Rd.one rfl _ _) (fun u hu => by simp at hu; subst hu; rfl) (by simp only [List.length_singleton]; unfold maxLen; omega) (by simp only [List.length_singleton]; omega) (by have := HB.out.2; simp; omega) ?_
      intro v1 w3 ho1 hg1
      have HO2 : Hid (w3.ownsRow base 4 1 v1 (n + (j + 1)) (bv (L ++ (List.range (j + 1)).map (fun k => N / 2 ^ (7 - k) % 2 == 1)))) := Lib.hid (by
        rw [HL.out, ← List.append_assoc]
        unfold bv at ho1 ⊢
        rw [List.map_append]; exact ho1)
      have HB2 : Hid (Below B w w3 ∧ w.heap.size ≤ w3.heap.size) := Lib.hid ⟨below_grown (HB.out.1.alloc (by have := HB.out.2; omega) _) hg1 (by
          obtain ⟨g1, g2 | ⟨g, cap, cur, gv, gb, r⟩⟩ := own_up HO.out (bal (brf wr) (.cells #[.bool bb] 4))
          · exact ⟨g1, .inl g2⟩
          · exact ⟨g1, .inr ⟨g, cap, cur, gv, Nat.le_trans hB gb, r⟩⟩) (by have := HB.out.2; simp; omega), Nat.le_trans HB.out.2 (Nat.le_trans (by simp) hg1.size)⟩
      clear ho1 hg1 HO HB HL
      go_wp2_with fail
      go_roundw
      case rel => exact ⟨j + 1, by omega, by have := HQ.out; exact congrArg (Value.int .i64) (by omega), HO2, HB2⟩
      case measure => simp [intOf] <;> omega
    · obtain rfl : j = 8 := by omega
      go_wp2_with fail
      go_ret
      exact ⟨_, rfl, HO.out, HB.out.1, HB.out.2⟩
set_option maxRecDepth 100000 in
set_option maxHeartbeats 2000000 in
theorem qrBitsOf_any (v : Value) (bs : List Nat) (w : World) (hv : Rd w w.heap.size v (wv8 bs)) (hb : ∀ x ∈ bs, x < 256) (hl : bs.length ≤ 2147483647) :
    Calls Try.prog 11 #[v] w fun e w' => ∃ v', e = .returned v' ∧ w'.ownsRow w.heap.size 4 1 v' (8 * bs.length) (bv (bitsK bs bs.length)) ∧ Below w.heap.size w w' := by
  have HV := Lib.hid hv
  obtain ⟨A, c, rfl, k1, k2, k3⟩ := hv
  rw [wv8_len] at k1 k3 HV ⊢
  have HK3 := Lib.hid k3
  unfold maxLen at k2
  have HBB := Lib.hid hb
  clear hb k3
  go_enter Try.func11, Try.ntmps11
  go_wp2_with fail
  go_loopw [3, 8] (fun lv iv wr => ∃ (i : Nat), i ≤ bs.length ∧ iv = .int .i64 (i : Int) ∧ Hid (wr.ownsRow w.heap.size 4 1 lv (8 * i) (bv (bitsK bs i))) ∧ Hid (Below w.heap.size w wr)) (fun _ iv _ => bs.length - (intOf iv).toNat)
  case atStart => exact ⟨0, Nat.zero_le _, rfl, Lib.hid (by simpa [bitsK, bv] using own_nil w w.heap.size 4), Lib.hid (brf w)⟩
  case round =>
    obtain ⟨i, hi, rfl, HO, HB⟩ := hrel
    rename World => wr
    by_cases hlt : i < bs.length
    · obtain ⟨b, o, rfl, hbb, hcc⟩ := HK3.out (by omega)
      have hx := HBB.out _ (List.getElem_mem hlt)
      have cX : wr.cell? ⟨b, o + i, none⟩ = some (.int .u8 ((bs.getD i 0 : Nat) : Int)) := by
        have e : bs.getD i 0 = bs[i] := by rw [List.getD, List.getElem?_eq_getElem hlt]; rfl
        rw [below_cells HB.out b _ hbb, e]; exact hcc i _ (wv8_at bs i hlt)
      have hx2 : bs.getD i 0 < 256 := by rw [List.getD, List.getElem?_eq_getElem hlt]; exact hx
      have hqa := qrAdd_any _ (bitsK bs i) (8 * i) (bs.getD i 0) w.heap.size w.heap.size wr HO.out hx2 (by omega) (Nat.le_refl _) HB.out.size
      rw [← bitsK_succ] at hqa
      obtain ⟨x, hxv⟩ : ∃ x, x = bs.getD i 0 := ⟨_, rfl⟩
      rw [← hxv] at cX hx2 hqa
      clear hx hcc hxv
      go_wp2_with fail
      refine hqa.mono ?_
      rintro e w2 ⟨v2, rfl, ho2, hb2, -⟩
      have HO2 := Lib.hid ho2
      have HB2 := Lib.hid (HB.out.trans hb2)
      clear hqa ho2 hb2 HO HB cX
      go_wp2_with fail
      go_roundw
      case rel => exact ⟨i + 1, by omega, by go_num, HO2, HB2⟩
      case measure => simp [intOf]; omega
    · obtain rfl : i = bs.length := by omega
      go_wp2_with fail
      go_ret
      exact ⟨_, rfl, HO.out, HB.out⟩
/-- Where bits lie, one behind the other. -/
def BitsL (w : World) (b off : Nat) (bs : List Nat) : Prop := ∀ j, j < 8 * bs.length → w.cell? ⟨b, off + j, none⟩ = some (.bool (bitB bs j == 1))
set_option maxRecDepth 100000 in
set_option maxHeartbeats 2000000 in
theorem qrTake_yes (bs : List Nat) (b off n cap pos k : Nat) (w : World) (h : BitsL w b off bs) (hn : n + pos = 8 * bs.length) (hk : k ≤ n) (hk2 : k ≤ 32) (_hc : n ≤ cap) (_hc2 : cap ≤ 9223372036854775807) :
    Calls Try.prog 12 #[.slice (some ⟨b, off + pos, none⟩) n cap, .int .i64 k] w fun e w' => ∃ o', e = .returned (.tuple #[.int .i64 (rb bs pos k : Nat), .slice (some ⟨b, o', none⟩) (n - k) (cap - k), .bool true]) ∧ (k < n → o' = off + (pos + k)) ∧ Below w.heap.size w w' := by
  have HC : Hid (∀ j, j < k → w.cell? ⟨b, off + pos + j, none⟩ = some (.bool (bitB bs (pos + j) == 1))) := Lib.hid (fun j hj => by
    rw [Nat.add_assoc]; exact h (pos + j) (by omega))
  clear h hn
  obtain ⟨o, ho⟩ : ∃ o, o = off + pos := ⟨_, rfl⟩
  rw [← Nat.add_assoc, ← ho]
  rw [← ho] at HC
  clear ho
  go_enter Try.func12, Try.ntmps12
  go_wp2_with fail
  go_loopw [7, 19] (fun nv iv wr => ∃ (i : Nat), i ≤ k ∧ iv = .int .i64 (i : Int) ∧ nv = .int .i64 (rb bs pos i : Nat) ∧ wr = w) (fun _ iv _ => k - (intOf iv).toNat)
  case atStart => exact ⟨0, Nat.zero_le _, rfl, rfl, rfl⟩
  case round =>
    obtain ⟨i, hi, rfl, rfl, rfl⟩ := hrel
    rename World => w
    by_cases hlt : i < k
    · have cX := HC.out i hlt
      have hz := rb_lt bs pos i
      have hz2 : 2 ^ i ≤ 2 ^ 32 := Nat.pow_le_pow_right (by decide) (by omega)
      have hb2 : bitB bs (pos + i) = 0 ∨ bitB bs (pos + i) = 1 := by have : bitB bs (pos + i) < 2 := Nat.mod_lt _ (by decide); omega
      have hs : rb bs pos (i + 1) = 2 * rb bs pos i + bitB bs (pos + i) := rfl
      obtain ⟨z, hzv⟩ : ∃ z, z = rb bs pos i := ⟨_, rfl⟩
      have hzb : z < 4294967296 := by omega
      rw [← hzv] at hs ⊢
      rcases hb2 with hb2 | hb2
      · rw [hb2] at cX hs
        have HS := Lib.hid hs
        clear hz hz2 hs hzv hb2
        go_wp2_with fail
        go_roundw
        case rel => exact ⟨i + 1, by omega, by go_num, by have := HS.out; exact congrArg (Value.int .i64) (by omega), trivial⟩
        case measure => simp [intOf]; omega
      · rw [hb2] at cX hs
        have HS := Lib.hid hs
        clear hz hz2 hs hzv hb2
        go_wp2_with fail
        go_roundw
        case rel => exact ⟨i + 1, by omega, by go_num, by have := HS.out; exact congrArg (Value.int .i64) (by omega), trivial⟩
        case measure => simp [intOf]; omega
    · obtain rfl : i = k := by omega
      obtain ⟨z, hz⟩ : ∃ z, z = rb bs pos i := ⟨_, rfl⟩
      rw [← hz]
      have HZ := Lib.hid hz
      clear hz
      go_wp2_with fail
      by_cases hci : cap = i
      · have hcz : cap - i = 0 := by omega
        refine Can.wp_region_can (fun w' => True) 999 [0, 1, 2, 3, 4, 5, 6] (by kernel_rfl) (by kernel_rfl) (fun _ _ d _ _ h => by cases d <;> exact h) trivial (fun hHeld => ?_)
        repeat (refine Can.can_pure (v := ?_) rfl rfl (Or.inl ⟨by rfl, ?_⟩) ?_; rotate_left; (focus ((intro w hSw); (try dsimp only at hSw); go_simp; (try with_reducible rfl))); (try simp only [Act.put, List.getElem_toArray, List.getElem_cons_succ, List.getElem_cons_zero, List.setIfInBounds_toArray, List.set_cons_zero, List.set_cons_succ]))
        refine Can.can_done ?_
        clear hHeld
        go_wp2_with fail
        go_ret3
        rw [hcz, ← HZ.out]
        exact ⟨o, rfl, fun h => by omega, bdr (brf _)⟩
      · have hcz : ¬ cap - i = 0 := by omega
        refine Can.wp_region_can (fun w' => True) 999 [0, 1, 2, 3, 4, 5, 6] (by kernel_rfl) (by kernel_rfl) (fun _ _ d _ _ h => by cases d <;> exact h) trivial (fun hHeld => ?_)
        repeat (refine Can.can_pure (v := ?_) rfl rfl (Or.inl ⟨by rfl, ?_⟩) ?_; rotate_left; (focus ((intro w hSw); (try dsimp only at hSw); go_simp; (try with_reducible rfl))); (try simp only [Act.put, List.getElem_toArray, List.getElem_cons_succ, List.getElem_cons_zero, List.setIfInBounds_toArray, List.set_cons_zero, List.set_cons_succ]))
        refine Can.can_done ?_
        clear hHeld
        go_wp2_with fail
        go_ret3
        rw [← HZ.out]
        exact ⟨o + i, rfl, fun h => rfl, bdr (brf _)⟩
theorem qrTake_no (A : Option Addr) (n cap k : Nat) (w : World) (hk : n < k) (_hk2 : k ≤ 32) (_hc : n ≤ cap) (_hc2 : cap ≤ 9223372036854775807) :
    Calls Try.prog 12 #[.slice A n cap, .int .i64 k] w fun e w' => e = .returned (.tuple #[.int .i64 0, .slice A n cap, .bool false]) ∧ w' = w := by
  go_enter Try.func12, Try.ntmps12
  go_wp2_with fail
  go_ret3
  exact ⟨rfl, rfl⟩
end Go.Proofs.Ytjkfkkenaiodoaa
