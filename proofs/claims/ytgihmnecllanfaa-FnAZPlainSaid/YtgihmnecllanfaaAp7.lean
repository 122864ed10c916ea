/-
  WALKS: impl.AZText; the law of plain bytes.
-/
import Derived.Test.YtgihmnecllanfaaAp4
import Derived.Test.YtgihmnecllanfaaAp6
namespace Go.Proofs.Ytgihmnecllanfaa
open Go.RowKit

theorem newDec_any (w : World) : Calls Try.prog 29 #[] w fun e w' => ∃ p, e = .returned (.pointer (some ⟨p, 0, none⟩)) ∧ Below w.heap.size w w' := by
  go_enter Try.func29, Try.ntmps29
  go_wp2
  go_ret
  exact ⟨_, rfl, bal (brf w) _⟩
theorem highLevel_any (p : Nat) (v : Value) (l : List Bool) (n : Nat) (final : List UInt8) (w : World) (hv : Rd w w.heap.size v (bv l)) (hn : l.length = n) (h2 : 2 ≤ n) (hmax : n ≤ 1000000) (hd : ∃ f, dec f l 0 0 = some final) :
    Calls Try.prog 30 #[.pointer (some ⟨p, 0, none⟩), v] w fun e w' => e = .returned (.tuple #[.string (ofL final), .nilIface]) ∧ Below w.heap.size w w' := by
  have HE := Lib.hid (encoded_any p v l n final w hv hn h2 hmax hd)
  obtain ⟨A, cap, rfl, -, -⟩ := hv.form
  clear hn hd hv
  go_enter Try.func30, Try.ntmps30
  go_wp2_with fail
  refine HE.out.mono ?_
  rintro e w1 ⟨rfl, hb⟩
  have HB := Lib.hid hb; clear hb
  go_wp2
  go_ret2
  exact ⟨rfl, HB.out⟩
theorem azText_any (v : Value) (l : List Bool) (n : Nat) (final : List UInt8) (w : World) (hv : Rd w w.heap.size v (bv l)) (hn : l.length = n) (h2 : 2 ≤ n) (hmax : n ≤ 1000000) (hd : ∃ f, dec f l 0 0 = some final) :
    Calls Try.prog 13 #[v] w fun e w' => e = .returned (.tuple #[.string (ofL final), .bool true]) ∧ Below w.heap.size w w' := by
  obtain ⟨i0, hi0, hz0, hz1, hz2⟩ := info_parts info_bool
  obtain ⟨A, cap, hvf, -, -⟩ := hv.form
  have HV := Lib.hid hv
  subst hvf
  have HN := Lib.hid hn; have HD := Lib.hid hd
  clear hv hn hd
  go_enter Try.func13, Try.ntmps13
  go_wp2_with fail
  refine (newDec_any _).mono ?_
  rintro e w1 ⟨p, rfl, hb⟩
  have HB := Lib.hid hb; have HV1 := Lib.hid (HV.out.up hb); clear hb HV
  go_wp2_with (with_reducible refine stop_at (o := ⟨some 9, _, _, _, _, _⟩) ?_)
  refine Lib.hid ?_
  refine list_app_rd _ rfl _ _ 22 rfl w1.heap.size 4 i0 _ 1 Try.underlying22 hi0 hz0 hz1 hz2 rfl _ 0 [] rfl (own_nil _ _ _) _ _ (bv l) rfl HV1.out (fun u hu => by simp only [bv, List.mem_map] at hu; obtain ⟨x, _, rfl⟩ := hu; rfl) (by rw [bv_len, HN.out]; unfold maxLen; omega) (by rw [bv_len, HN.out]; omega) (Nat.le_refl _) ?_
  intro v1 w2 ho1 hg1
  rw [List.nil_append] at ho1
  have HR := Lib.hid (Rd.of_own ho1)
  have HB2 : Hid (Below w1.heap.size w1 w2) := Lib.hid (below_grown (brf w1) hg1 (own_nil w1 w1.heap.size 4) (Nat.le_refl _))
  clear ho1 hg1 HV1
  go_wp2_with fail
  refine (highLevel_any p v1 l n final _ HR.out HN.out h2 hmax HD.out).mono ?_
  rintro e w3 ⟨rfl, hb3⟩
  have HB3 := Lib.hid (bup HB.out (bup HB2.out hb3)); clear hb3
  go_wp2
  go_ret2
  exact ⟨rfl, HB3.out⟩

/-- The bytes that the law makes of its argument. -/
def low (b : List Int) : List UInt8 := b.map fun x => UInt8.ofNat (x.toNat % 128)
theorem low_lt (b : List Int) : ∀ x ∈ low b, x.toNat < 128 := by
  intro x hx
  simp only [low, List.mem_map] at hx
  obtain ⟨y, _, rfl⟩ := hx
  simp; omega
theorem bl_set (l : List UInt8) (i : Nat) (b : UInt8) : (bl l).toArray.setIfInBounds i (.int .u8 (b.toNat : Int)) = (bl (l.set i b)).toArray := by simp [bl, List.map_set]
theorem bl_rep (n : Nat) : rep n (.int .u8 0) = (bl (List.replicate n 0)).toArray := by simp [rep, bl]
theorem plainL_pos (f : Nat) (l : List UInt8) (h : 0 < l.length) : 2 ≤ (plainL (f + 1) l).length := by
  rw [plainL, if_neg (by omega)]
  have : 5 ≤ (headL (l.take 62).length).length := by unfold headL; rw [List.length_append, putL_len]; omega
  rw [List.length_append, List.length_append]; omega
theorem plainL_le (f : Nat) (l : List UInt8) : (plainL f l).length ≤ 600 * f := by
  induction f generalizing l with
  | zero => simp [plainL]
  | succ f ih =>
    rw [plainL]
    split
    · simp
    · have h1 := headL_le (l.take 62).length
      have h2 := ih (l.drop 62)
      have h3 : (l.take 62).length ≤ 62 := by rw [List.length_take]; omega
      rw [List.length_append, List.length_append, byteBits_len]; omega
set_option maxRecDepth 100000 in
theorem plain_walk (v : Value) (b : List Int) (w : World) (hv : Rd w w.heap.size v (vals .u8 b)) (hwf : ∀ x ∈ b, (Lit.int .u8 x).wf = true) :
    Calls Try.prog 4 #[v] w fun e w' => e = .returned (.bool true) ∧ Below w.heap.size w w' := by
  obtain ⟨A, cap, rfl, hcap, hcm, hcell⟩ := hv
  rw [vals_len] at *
  unfold maxLen at hcm
  have HC := Lib.hid hcell; clear hcell
  have hbd : ∀ x ∈ b, 0 ≤ x ∧ x ≤ 255 := fun x hx => by have := bounds_u8 (hwf x hx); omega
  have HBD := Lib.hid hbd; clear hwf hbd
  by_cases hbig : 2147483647 < b.length
  · go_enter Try.func4, Try.ntmps4
    go_wp2
    go_ret
    exact ⟨rfl, brf w⟩
  · by_cases h0 : b.length = 0
    · obtain rfl : b = [] := List.eq_nil_of_length_eq_zero h0
      cases A
      · go_enter Try.func4, Try.ntmps4
        go_wp2
        go_ret
        exact ⟨rfl, brf w⟩
      · go_enter Try.func4, Try.ntmps4
        go_wp2
        go_ret
        exact ⟨rfl, brf w⟩
    · obtain ⟨g, o, rfl, hgl, hcell⟩ := HC.out (by omega)
      have HCL := Lib.hid hcell; clear hcell HC
      obtain ⟨m, hm⟩ : ∃ m, m = min b.length 400 := ⟨_, rfl⟩
      have hmin : min (b.length : Int) 400 = (m : Int) := by omega
      have hm1 : 0 < m := by omega
      have hm2 : m ≤ 400 := by omega
      have hm3 : m ≤ b.length := by omega
      obtain ⟨L, hL⟩ : ∃ L, L = low (b.take m) := ⟨_, rfl⟩
      have hLl : L.length = m := by rw [hL]; unfold low; rw [List.length_map, List.length_take]; omega
      have h7 : ∀ x ∈ L, x.toNat < 128 := by rw [hL]; exact low_lt _
      have HL := Lib.hid hL; have HLL := Lib.hid hLl; have H7 := Lib.hid h7
      have hmk := fun a => run_mk (P := Try.prog) 32 5 (.int .u8 0) 1 Try.underlying32 info_u8 rfl m (by omega) (by omega) a
      rw [bl_rep] at hmk
      have hm0 : ((m : Int) == 0) = false := by simp; omega
      clear hm hL hLl h7 h0
      go_enter Try.func4, Try.ntmps4
      go_wp2_with fail
      clear hmk hmin hm0
      go_loopw [4] (fun iv wr => ∃ (i : Nat), i ≤ m ∧ iv = .int .i64 i ∧ Hid (Blk wr w.heap.size 5 (bl (fillA L 0 m i)).toArray) ∧ Hid (Below w.heap.size w wr)) (fun iv _ => m - (intOf iv).toNat)
      case atStart => exact ⟨0, Nat.zero_le _, rfl, Lib.hid (by rw [fill_zero]; exact Blk.fresh w _ _), Lib.hid (bal (brf w) _)⟩
      case round =>
        obtain ⟨i, hi, rfl, HK, HB⟩ := hrel
        by_cases hlt : i < m
        · have hib : i < b.length := by omega
          have cB := below_cells HB.out g (o + i) hgl
          rw [HCL.out i _ (show (vals .u8 b)[i]? = some (.int .u8 b[i]) by simp [vals, hib])] at cB
          have hx := HBD.out b[i] (List.getElem_mem hib)
          have hil : i < L.length := by rw [HLL.out]; exact hlt
          have hLi : (L[i].toNat : Int) = b[i].tmod 128 := by
            have e1 : L[i] = UInt8.ofNat (b[i].toNat % 128) := by
              have : L[i]? = some (UInt8.ofNat (b[i].toNat % 128)) := by
                rw [HL.out]; unfold low; rw [List.getElem?_map, List.getElem?_take_of_lt hlt, List.getElem?_eq_getElem hib]; rfl
              rw [List.getElem?_eq_getElem hil] at this; injection this
            rw [e1, Int.tmod_eq_emod_of_nonneg hx.1]
            simp; omega
          have hset := fill_set L (0 : UInt8) m i hil (by rw [HLL.out]; exact Nat.le_refl _)
          have HS := Lib.hid hset
          have cO : wr.cell? ⟨w.heap.size, i, none⟩ = some (.int .u8 0) := by
            rw [HK.out.cell, List.getElem?_toArray]
            unfold bl
            rw [List.getElem?_map, fill_at_k L 0 m i hlt (by omega)]; rfl
          have fO := HK.out.frozen i
          generalize b[i] = x at *
          have hx1 := hx.1
          have hx2 := hx.2
          obtain ⟨y, hy⟩ : ∃ y, y = L[i] := ⟨_, rfl⟩
          rw [← hy] at hLi HS
          have HKn : Hid (Blk (wr.setCell ⟨w.heap.size, i, none⟩ (.int .u8 (y.toNat : Int))) w.heap.size 5 (bl (fillA L 0 m (i + 1))).toArray) := Lib.hid (by
            have := HK.out.put i (.int .u8 (y.toNat : Int))
            rw [bl_set, HS.out] at this; exact this)
          have HBn := Lib.hid (HB.out.setCell (p := ⟨w.heap.size, i, none⟩) (Nat.le_refl _) (.int .u8 (y.toNat : Int)))
          have hLi2 := hLi.symm
          clear hLi hy HS hset hx
          go_wp2
          go_roundw
          case rel => exact ⟨i + 1, by omega, by go_num, HKn, HBn⟩
          case measure => simp [intOf]; omega
        · obtain rfl : i = m := by omega
          have hB2 : Blk wr w.heap.size 5 (bl L).toArray := by
            have h1 := HK.out
            have e := fill_full L (0 : UInt8)
            rw [HLL.out] at e
            rw [e] at h1; exact h1
          have hrd : Rd wr wr.heap.size (.slice (some ⟨w.heap.size, 0, none⟩) i i) (bl L) := Rd.of_blk hB2 (by rw [bl_len, HLL.out]) (by rw [bl_len, HLL.out]; exact Nat.le_refl _) (by unfold maxLen; omega)
          have hcs : ∀ wq, Below wr.heap.size wr wq → (convert 32 9 (.slice (some ⟨w.heap.size, 0, none⟩) i i)).run Try.prog wq = .ok (.string (ofL L)) wq := fun wq hq =>
            conv_str (P := Try.prog) wq wq.heap.size 32 5 9 Try.underlying32 Try.underlying5 Try.underlying9 _ (ofL L) (by rw [bytesOf_ofL]; exact hrd.up hq)
          have HCS := Lib.hid hcs
          have h1 := hcs wr (brf _)
          clear hcs hB2 hrd
          go_wp2_with fail
          refine (plain_any (ofL L) L _ (ofL_data L) (by rw [HLL.out]; omega) H7.out).mono ?_
          rintro e w1 ⟨v1, rfl, hr1, hb1⟩
          have HR1 := Lib.hid hr1
          have HB1 := Lib.hid hb1
          clear h1 hr1 hb1
          go_wp2_with fail
          refine (azText_any v1 (plainL 7 L) _ L _ HR1.out rfl (plainL_pos 6 L (by rw [HLL.out]; exact hm1)) (Nat.le_trans (plainL_le 7 L) (by decide)) ⟨15, dec_plain 7 L (by rw [HLL.out]; omega)⟩).mono ?_
          rintro e w2 ⟨rfl, hb2⟩
          have h2 := HCS.out w2 (bup HB1.out hb2)
          have HB2 := Lib.hid (HB.out.trans ((bup HB1.out hb2).mono HB.out.size))
          clear hb2
          go_wp2
          go_ret
          exact ⟨rfl, HB2.out⟩
end Go.Proofs.Ytgihmnecllanfaa
