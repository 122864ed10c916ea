/-
  WALKS: gozxing.BitArray: AppendBits, AppendBitArray.
-/
import Derived.Test.YtjhfebhefclenaaAr3
import Derived.Test.YtjhfebhefclenaaErr
namespace Go.Proofs.Ytjhfebhefclenaa
open Go.RowKit

/-- The first k of the m lowest bits of a number, the highest first. -/
def topB (v m k : Nat) : List Bool := (List.range k).map fun j => v.testBit (m - 1 - j)
theorem topB_len (v m k : Nat) : (topB v m k).length = k := by simp [topB]
theorem topB_succ (v m k : Nat) : topB v m (k + 1) = topB v m k ++ [v.testBit (m - 1 - k)] := by simp [topB, List.range_succ]
theorem bit_and64 (x k : Nat) : (((x &&& 2 ^ k : Nat) : Int) != 0) = x.testBit k := bit_and x k
theorem and_pow (v j : Nat) (hv : v < 9223372036854775808) (hj : j < 63) : bits .and .i64 (v : Int) (wrap64 ((2 : Int) ^ j)) = ((v &&& 2 ^ j : Nat) : Int) := by
  have hb : 2 ^ j < 2 ^ 63 := Nat.pow_lt_pow_right (by decide) hj
  have e : (2 : Int) ^ j = ((2 ^ j : Nat) : Int) := by simp
  rw [e]
  generalize 2 ^ j = q at *
  have hw : wrap64 (q : Int) = (q : Int) := by unfold wrap64; omega
  rw [hw]
  exact i64_and _ _ hv hb
set_option maxRecDepth 100000 in
theorem appendBits_no (p : Nat) (v m : Int) (w : World) (hm : m < 0 ∨ 32 < m) :
    Calls Try.prog 18 #[.pointer (some ⟨p, 0, none⟩), .int .i64 v, .int .i64 m] w fun e w' => (∃ T u, e = .returned (.iface T u)) ∧ Below w.heap.size w w' := by
  by_cases h1 : m < 0
  · go_enter Try.func18, Try.ntmps18
    go_wp2_with fail
    refine (errNew_any _ w).mono ?_
    rintro e w1 ⟨b, rfl, hb⟩
    go_wp2
    go_ret
    exact ⟨⟨_, _, rfl⟩, hb⟩
  · have h2 : 32 < m := by omega
    go_enter Try.func18, Try.ntmps18
    go_wp2_with fail
    refine (errNew_any _ w).mono ?_
    rintro e w1 ⟨b, rfl, hb⟩
    go_wp2
    go_ret
    exact ⟨⟨_, _, rfl⟩, hb⟩
set_option maxRecDepth 100000 in
theorem appendBits_yes (p g n v m : Nat) (l : List Bool) (w : World) (h : ArrG w p g l n) (hn : n ≤ 16000) (hv : v < 2147483648) (hm : m ≤ 32) :
    Calls Try.prog 18 #[.pointer (some ⟨p, 0, none⟩), .int .i64 v, .int .i64 m] w fun e w' => ∃ g', e = .returned .nilIface ∧ ArrG w' p g' (l ++ topB v m m) (max n (l.length + m)) ∧ Off w w' p g ∧ (g' = g ∨ w.heap.size ≤ g') := by
  have hf := h.fits
  have c1 : w.cell? ⟨p, 1, none⟩ = some (.int .i64 l.length) := by rw [h.head.cell]; rfl
  have he := ensure_any p g n (l.length + m) l w h (by omega) (by omega) (by omega)
  rw [show ((l.length + m : Nat) : Int) = (l.length : Int) + (m : Int) by omega] at he
  have hll : l.length ≤ 16000 := by omega
  obtain ⟨N, hN⟩ : ∃ N, N = max n (l.length + m) := ⟨_, rfl⟩
  rw [← hN] at he ⊢
  have hNl : l.length + m ≤ N := by omega
  have hNm : N ≤ 16032 := by omega
  clear hN hf h
  go_enter Try.func18, Try.ntmps18
  go_wp2_with fail
  refine he.mono ?_
  rintro e w1 ⟨g1, rfl, hA, hO, hg1⟩
  have HO := Lib.hid hO
  have HG := Lib.hid hg1
  have HH := Lib.hid hA.head
  have HR : Hid (Blk w1 g1 47 (wv (wordsN (l ++ topB v m 0) N)).toArray) := Lib.hid (by simpa [topB] using hA.rows)
  have hap := hA.apart
  clear hA hO hg1 he c1
  have hM : (N + 31) / 32 ≤ 1000 := by omega
  have hM2 : ∀ i, i < N → i / 32 < (N + 31) / 32 := fun i hi => by omega
  have HM2 := Lib.hid hM2; clear hM2
  generalize hM' : (N + 31) / 32 = M at *
  have HM := Lib.hid hM'; clear hM'
  go_wp2_with fail
  go_loopw [7, 8] (fun sv jv wr => ∃ k : Nat, k ≤ m ∧ sv = .int .i64 ((l.length : Int) + (k : Int)) ∧ jv = .int .i64 ((m : Int) - 1 - (k : Int)) ∧ Hid (Blk wr g1 47 (wv (wordsN (l ++ topB v m k) N)).toArray) ∧ Hid (Blk wr p 53 #[.slice (some ⟨g1, 0, none⟩) M M, .int .i64 l.length]) ∧ Hid (Off w wr p g)) (fun _ jv _ => (intOf jv + 1).toNat)
  case atStart => exact ⟨0, Nat.zero_le _, by simp, by simp, HR, HH, HO⟩
  case round =>
    clear HR HH HO
    obtain ⟨k, hk, rfl, rfl, HR, HH, HO⟩ := hrel
    by_cases hlt : k < m
    · obtain ⟨j, hj⟩ : ∃ j : Nat, (m : Int) - 1 - (k : Int) = (j : Int) ∧ j = m - 1 - k := ⟨m - 1 - k, by omega, rfl⟩
      obtain ⟨hj1, hj2⟩ := hj
      rw [hj1]
      have HJ1 := Lib.hid hj1
      have HJ2 := Lib.hid hj2
      have hj32 : j < 32 := by omega
      obtain ⟨L, hL⟩ : ∃ L, L = l ++ topB v m k := ⟨_, rfl⟩
      have hLn : L.length = l.length + k := by rw [hL, List.length_append, topB_len]
      obtain ⟨i, hi⟩ : ∃ i : Nat, (l.length : Int) + (k : Int) = (i : Int) ∧ i = L.length := ⟨L.length, by omega, rfl⟩
      obtain ⟨hi1, hi2⟩ := hi
      have hTs : l ++ topB v m (k + 1) = L ++ [v.testBit j] := by rw [topB_succ, ← List.append_assoc, ← hL, hj2]
      rw [← hL] at HR
      rw [hi1]
      have HI1 := Lib.hid hi1
      have HTS := Lib.hid hTs
      have hiN : i < N := by omega
      have hilt := HM2.out i hiN
      have hil : i < 9000000000 := by omega
      have hb2 : 2 ^ j ≤ 2 ^ 31 := Nat.pow_le_pow_right (by decide) (by omega)
      have eb := and_pow v j (by omega) (by omega)
      have eb2 := bit_and v j
      clear hb2 hj1 hj2 hTs hi1
      generalize v &&& 2 ^ j = y at *
      cases hvb : v.testBit j
      · rw [hvb] at HTS eb2
        have HR2 : Hid (Blk wr g1 47 (wv (wordsN (l ++ topB v m (k + 1)) N)).toArray) := Lib.hid (by rw [HTS.out, ← wordsN_nil L N (by omega)]; exact HR.out)
        clear HR hvb hL hLn hi2
        go_wp2
        go_roundw
        case rel => exact ⟨k + 1, by omega, (by have := HI1.out; congr 1; omega), (by have := HJ1.out; congr 1; omega), HR2, HH, HO⟩
        case measure => simp [intOf]
      · rw [hvb] at HTS eb2
        have hl := wordsN_len L N (by omega)
        have hlt2 : i / 32 < (wordsN L N).length := by rw [hl, HM.out]; exact hilt
        have d0 : wr.cell? ⟨p, 0, none⟩ = some (.slice (some ⟨g1, 0, none⟩) M M) := by rw [HH.out.cell]; rfl
        have d2 : wr.cell? ⟨g1, i / 32, none⟩ = some (.int .u32 (((wordsN L N)[i / 32] : Nat) : Int)) := by rw [HR.out.cell, wv_at _ _ hlt2]
        have f2 := HR.out.frozen (i / 32)
        have hx := wordsN_lt L N _ (List.getElem_mem hlt2)
        have hg : (wordsN L N).getD (i / 32) 0 = (wordsN L N)[i / 32] := by rw [List.getD, List.getElem?_eq_getElem hlt2]; rfl
        have HR2 : Hid (Blk (wr.setCell ⟨g1, i / 32, none⟩ (.int .u32 (((wordsN L N)[i / 32] ||| 2 ^ (i % 32) : Nat) : Int))).drew g1 47 (wv (wordsN (l ++ topB v m (k + 1)) N)).toArray) := Lib.hid (by
          rw [HTS.out, ← wordsN_one L N (by omega), ← hg, setW, ← wv_set, ← hi2]; exact (HR.out.put _ _).drew)
        have HH2 := Lib.hid ((HH.out.far (p := ⟨g1, i / 32, none⟩) hap (.int .u32 (((wordsN L N)[i / 32] ||| 2 ^ (i % 32) : Nat) : Int))).drew)
        have HO2 : Hid (Off w (wr.setCell ⟨g1, i / 32, none⟩ (.int .u32 (((wordsN L N)[i / 32] ||| 2 ^ (i % 32) : Nat) : Int))).drew p g) := Lib.hid (HO.out.then_ ((Off.put2 wr p g1 (i / 32) _).trans (Off.drew _ p g1)) HG.out)
        clear HR hvb hL hLn hi2 hl hg HH HO
        generalize (wordsN L N)[i / 32] = x at *
        clear hlt2
        have hk32 : i % 32 < 32 := Nat.mod_lt _ (by decide)
        have p1 := pow32 (i % 32) hk32
        have e1 : bits .or .u32 (x : Int) ((2 ^ (i % 32) : Nat) : Int) = ((x ||| 2 ^ (i % 32) : Nat) : Int) := u32_or _ _ hx (Nat.pow_lt_pow_right (n := 32) (by decide) hk32)
        have hya : bits .and .i64 (i : Int) 31 = ((i % 32 : Nat) : Int) := by
          have h := i64_and i 31 (by omega) (by decide)
          rw [show i &&& 31 = i % 32 from Nat.and_two_pow_sub_one_eq_mod i 5] at h
          exact h
        have t5 : IntKind.u32.wrap ((2 : Int) ^ (i % 32)) = ((2 ^ (i % 32) : Nat) : Int) := by rw [IntKind.wrap_u32]; exact p1
        generalize i % 32 = k3 at *
        have t4 : min k3 32 = k3 := by omega
        generalize x ||| 2 ^ k3 = z at *
        generalize 2 ^ k3 = q at *
        clear p1
        have i1 : (0 : Int) ≤ (i : Int) / 32 := by omega
        have i2 : (i : Int) / 32 < (M : Int) := by omega
        have i3 : ((i : Int) / 32).toNat = i / 32 := by omega
        have i4 : IntKind.i64.wrap ((i : Int) / 32) = (i : Int) / 32 := by rw [IntKind.wrap_i64]; omega
        go_wp2_with fail
        refine Can.wp_region_can (fun w' => w'.cell? ⟨p, 0, none⟩ = some (.slice (some ⟨g1, 0, none⟩) M M) ∧ w'.cell? ⟨g1, i / 32, none⟩ = some (.int .u32 (x : Int)) ∧ w'.frozen? ⟨g1, i / 32, none⟩ = false) 13 [0, 1, 2, 3, 4, 5, 6, 7, 8, 9, 10, 11, 12, 13] (by kernel_rfl) (by kernel_rfl) (fun _ _ d _ _ h => by cases d <;> exact h) ⟨d0, d2, f2⟩ (fun hHeld => ?_)
        repeat (refine Can.can_pure (v := ?_) rfl rfl (Or.inl ⟨by rfl, ?_⟩) ?_; rotate_left; (focus ((intro w hSw); (try dsimp only at hSw); go_simp; (try with_reducible rfl))); (try simp only [Act.put, List.getElem_toArray, List.getElem_cons_succ, List.getElem_cons_zero, List.setIfInBounds_toArray, List.set_cons_zero, List.set_cons_succ]))
        have g0 := hHeld.2.2
        have g1' := hHeld.2.1
        refine Can.can_tail rfl rfl (by rfl) (fun K hK => ?_)
        go_simp
        refine hK.out _ _ ?_
        clear hK K
        clear hHeld g0 g1' i1 i2 i3 i4 e1 hya t4 t5 d0 d2 f2 hx
        go_wp2
        go_roundw
        case rel => exact ⟨k + 1, by omega, (by have := HI1.out; congr 1; omega), (by have := HJ1.out; congr 1; omega), HR2, HH2, HO2⟩
        case measure => simp [intOf]
    · obtain rfl : k = m := by omega
      have d3 := HH.out.cell 1
      have f3 := HH.out.frozen 1
      have d4 : wr.cell? ⟨p, 1, none⟩ = some (.int .i64 l.length) := d3
      have HP := Lib.hid (HH.out.put 1 (.int .i64 ((l.length : Int) + (k : Int))))
      have HRn := Lib.hid (HR.out.far (p := ⟨p, 1, none⟩) (Ne.symm hap) (.int .i64 ((l.length : Int) + (k : Int))))
      have HO3 := Lib.hid (HO.out.then_ (Off.put1 wr p g1 1 (.int .i64 ((l.length : Int) + (k : Int)))) HG.out)
      clear d3 HR HH HO
      go_wp2
      go_ret
      have hlen : ((l ++ topB v k k).length : Int) = (l.length : Int) + (k : Int) := by rw [List.length_append, topB_len]; simp
      refine ⟨g1, rfl, ⟨?_, HRn.out, by rw [List.length_append, topB_len]; exact hNl, hap⟩, HO3.out, HG.out⟩
      rw [HM.out, hlen]; exact HP.out
theorem take_snoc' (l : List Bool) (k : Nat) (h : k < l.length) : l.take (k + 1) = l.take k ++ [l.getD k false] := by
  rw [List.take_succ_eq_append_getElem h, List.getD, List.getElem?_eq_getElem h]; rfl
set_option maxRecDepth 100000 in
theorem appendArr_any (p g n q gq m : Nat) (l l2 : List Bool) (w : World) (h : ArrG w p g l n) (h2 : ArrG w q gq l2 m) (hn : n ≤ 8000) (hm : m ≤ 8000) (a1 : q ≠ p) (a2 : q ≠ g) (a3 : gq ≠ p) (a4 : gq ≠ g) :
    Calls Try.prog 19 #[.pointer (some ⟨p, 0, none⟩), .pointer (some ⟨q, 0, none⟩)] w fun e w' => ∃ g', e = .returned (.tuple #[]) ∧ ArrG w' p g' (l ++ l2) (max n (l.length + l2.length)) ∧ Off w w' p g ∧ (g' = g ∨ w.heap.size ≤ g') := by
  have hf := h.fits
  have hf2 := h2.fits
  have c1 : w.cell? ⟨p, 1, none⟩ = some (.int .i64 l.length) := by rw [h.head.cell]; rfl
  have c2 : w.cell? ⟨q, 1, none⟩ = some (.int .i64 l2.length) := by rw [h2.head.cell]; rfl
  have he := ensure_any p g n (l.length + l2.length) l w h (by omega) (by omega) (by omega)
  rw [show ((l.length + l2.length : Nat) : Int) = (l.length : Int) + (l2.length : Int) by omega] at he
  have hll : l.length ≤ 8000 := by omega
  have hll2 : l2.length ≤ 8000 := by omega
  have hlq := h2.head.lt
  have hlgq := h2.rows.lt
  obtain ⟨N, hN⟩ : ∃ N, N = max n (l.length + l2.length) := ⟨_, rfl⟩
  rw [← hN] at he ⊢
  have hNl : l.length + l2.length ≤ N := by omega
  have hNm : N ≤ 16000 := by omega
  have HQ := Lib.hid h2
  clear hN hf h hf2 h2
  go_enter Try.func19, Try.ntmps19
  go_wp2_with fail
  refine he.mono ?_
  rintro e w1 ⟨g1, rfl, hA, hO, hg1⟩
  have HO := Lib.hid hO
  have HG := Lib.hid hg1
  have HA : Hid (ArrG w1 p g1 (l ++ l2.take 0) N) := Lib.hid (by simpa using hA)
  clear hA hO hg1 he c1 c2
  go_wp2_with fail
  go_loopw [5] (fun iv wr => ∃ k g1 : Nat, k ≤ l2.length ∧ iv = .int .i64 k ∧ Hid (ArrG wr p g1 (l ++ l2.take k) N) ∧ Hid (Off w wr p g) ∧ Hid (g1 = g ∨ w.heap.size ≤ g1)) (fun iv _ => l2.length - (intOf iv).toNat)
  case atStart => exact ⟨0, g1, Nat.zero_le _, rfl, HA, HO, HG⟩
  case round =>
    clear HA HO HG
    obtain ⟨k, g2, hk, rfl, HA, HO, HG⟩ := hrel
    by_cases hlt : k < l2.length
    · have hQ2 := HQ.out.off HO.out a1 a2 a3 a4
      have hget := getA_any q gq k m l2 wr hQ2 hlt (by omega)
      have hlen : (l ++ l2.take k).length = l.length + k := by rw [List.length_append, List.length_take]; omega
      have happ := appendBit_any p g2 N (l ++ l2.take k) (l2.getD k false) wr HA.out hNm
      rw [hlen, show max N (l.length + k + 1) = N by omega, List.append_assoc, ← take_snoc' l2 k hlt] at happ
      clear hQ2 hlen HA
      generalize l2.getD k false = b at *
      go_wp2_with fail
      refine hget.mono ?_
      rintro e wr ⟨rfl, rfl⟩
      go_wp2_with fail
      refine happ.mono ?_
      rintro e w3 ⟨g3, rfl, hA3, hO3, hg3⟩
      have HA3 := Lib.hid hA3
      have HO3 := Lib.hid (HO.out.then_ hO3 HG.out)
      have HG3 : Hid (g3 = g ∨ w.heap.size ≤ g3) := Lib.hid (by
        have := HO.out.size
        rcases hg3 with rfl | hg3
        · exact HG.out
        · right; omega)
      clear hA3 hO3 hg3 hget happ
      go_wp2
      go_roundw
      case rel => exact ⟨k + 1, g3, by omega, by go_num, HA3, HO3, HG3⟩
      case measure => simp [intOf]; omega
    · obtain rfl : k = l2.length := by omega
      have HA2 : Hid (ArrG wr p g2 (l ++ l2) N) := Lib.hid (by have := HA.out; rwa [List.take_length] at this)
      clear HA
      go_wp2
      refine bodyPost_end (results_none rfl _ _ _) rfl ?_
      exact ⟨g2, rfl, HA2.out, HO.out, HG.out⟩
end Go.Proofs.Ytjhfebhefclenaa
