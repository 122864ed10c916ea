/-
  WALKS: bytes of bits, by the specification and by the package.
-/
import Derived.Test.YtbfkjfgjeaofpaaBi1
import Derived.Test.YtbfkjfgjeaofpaaStr
import Derived.Lib.SlBytesRow
import Derived.Lib.BufferRead
namespace Go.Proofs.Ytbfkjfgjeaofpaa
open Go.RowKit

theorem info_parts {P : Program} {e : TypeId} {z : Value} {b : Nat} (h : (P.info? e).map (fun i => (i.zero, i.size, i.bytes)) = some (some z, 1, b)) :
    ∃ i, P.info? e = some i ∧ i.zero = some z ∧ i.size = 1 ∧ i.bytes = b := by
  obtain ⟨i, hi, hh⟩ := Option.map_eq_some_iff.1 h
  simp only [Prod.mk.injEq] at hh
  exact ⟨i, hi, hh.1, hh.2.1, hh.2.2⟩
theorem info_u8 : (Try.prog.info? 5).map (fun i => (i.zero, i.size, i.bytes)) = some (some (.int .u8 0), 1, 1) := by kernel_rfl
theorem info_u32 : (Try.prog.info? 28).map (fun i => (i.zero, i.size, i.bytes)) = some (some (.int .u32 0), 1, 4) := by kernel_rfl
theorem info_bool : (Try.prog.info? 4).map (fun i => (i.zero, i.size, i.bytes)) = some (some (.bool false), 1, 1) := by kernel_rfl
theorem byVs_succ (l : List Bool) (off k : Nat) : byVs l off (k + 1) = byVs l off k ++ [byV l off k] := by simp [byVs, List.range_succ]

theorem wv_one (xs : List Nat) : ∀ u ∈ wv xs, u.oneCell' = true := fun u hu => by
  simp only [wv, List.mem_map] at hu
  obtain ⟨x, _, rfl⟩ := hu
  rfl
theorem getBits_any (p : Nat) (v : Value) (w : World) (c0 : w.cell? ⟨p, 0, none⟩ = some v) : Calls Try.prog 25 #[.pointer (some ⟨p, 0, none⟩)] w fun e w' => e = .returned v ∧ w' = w := by
  go_enter Try.func25, Try.ntmps25
  go_wp2
  go_ret
  exact ⟨rfl, rfl⟩
/-- impl.ArrayBytes. -/
theorem arrayBytes_any (v : Value) (l : List Bool) (off many : Nat) (w : World) (hv : Rd w w.heap.size v (bv l)) (hs : l.length ≤ 16384) (hoff : off + 8 * many ≤ l.length) :
    Calls Try.prog 8 #[v, .int .i64 off, .int .i64 many] w fun e w' => ∃ v', e = .returned v' ∧ Rd w' w'.heap.size v' (byVs l off many) ∧ Below w.heap.size w w' := by
  have hmk := run_mk (P := Try.prog) 24 5 (.int .u8 0) 1 Try.underlying24 info_u8 rfl many (by omega) (by omega) w
  have hX := Blk.fresh w 5 (rep many (.int .u8 0))
  have hB := bal (brf w) (.cells (rep many (.int .u8 0)) 5)
  have hz : w.heap.size < (w.alloc (.cells (rep many (.int .u8 0)) 5)).heap.size := hX.lt
  generalize (w.alloc (.cells (rep many (.int .u8 0)) 5)) = w1 at *
  have hv1 := hv.up hB
  have HX := Lib.hid hX; clear hX
  have HB := Lib.hid hB; clear hB
  have HV := Lib.hid hv1; clear hv1 hv
  have hm : (0 : Int) ≤ (many : Int) := by omega
  go_enter Try.func8, Try.ntmps8
  go_wp2_with fail
  refine (array_any v l w1 HV.out hs).mono ?_
  rintro e w2 ⟨p, g, rfl, hA, hp, hg, hb2⟩
  have HX2 := Lib.hid (HX.out.up hb2)
  have HBL := Lib.hid (bup HB.out hb2)
  have HA := Lib.hid hA; clear hA hb2
  go_wp2_with fail
  refine (toBytes_any p g w.heap.size l.length off many (wordsOf l) l w2 HA.out (wordsOf_bit l) hoff hs HX2.out (by omega) (by omega)).mono ?_
  rintro e w3 ⟨rfl, hX3, hb3⟩
  go_wp2
  go_ret
  exact ⟨_, rfl, Rd.of_blk hX3 (by rw [byVs_len]) (by rw [byVs_len]; exact Nat.le_refl _) (by unfold maxLen; omega), HBL.out.trans hb3⟩

/-- spec.BIBytes. -/
theorem specBytes_any (v : Value) (l : List Bool) (off many : Nat) (w : World) (hv : Rd w w.heap.size v (bv l)) (hs : l.length ≤ 16384) (hoff : off + 8 * many ≤ l.length) :
    Calls Try.prog 9 #[v, .int .i64 off, .int .i64 many] w fun e w' => ∃ v', e = .returned v' ∧ Rd w' w'.heap.size v' (byVs l off many) ∧ Below w.heap.size w w' := by
  obtain ⟨A, cap, rfl, h1, h2, h3⟩ := hv
  rw [bv_len] at *
  unfold maxLen at h2
  have HA := Lib.hid h3; clear h3
  obtain ⟨i0, hi0, hz0, hz1, hz2⟩ := info_parts info_u8
  go_enter Try.func9, Try.ntmps9
  go_wp2
  go_loopw [7, 8] (fun o i wr => ∃ k : Nat, k ≤ many ∧ i = .int .i64 k ∧ Hid (wr.ownsRow w.heap.size 5 1 o k (byVs l off k)) ∧ Hid (Below w.heap.size w wr)) (fun _ i _ => many - (intOf i).toNat)
  case atStart => exact ⟨0, Nat.zero_le _, rfl, Lib.hid (own_nil _ _ _), Lib.hid (brf w)⟩
  case round =>
    obtain ⟨k, hk, rfl, HO, HB⟩ := hrel
    by_cases hlt : k < many
    · go_wp2
      obtain ⟨wo, rfl⟩ : ∃ wo : World, wo = wr := ⟨_, rfl⟩
      go_loopw [9, 10] (fun b j wr => ∃ (m y : Nat), m ≤ 8 ∧ j = .int .i64 m ∧ b = .int .i64 y ∧ y < 256 ∧ Hid (y = byN l (off + 8 * k) m) ∧ wr = wo) (fun _ j _ => 8 - (intOf j).toNat)
      case atStart => exact ⟨0, 0, by omega, rfl, rfl, by omega, Lib.hid rfl, rfl⟩
      case round =>
        obtain ⟨m, y, hm, rfl, rfl, hy, HY, rfl⟩ := hrel
        by_cases hm8 : m < 8
        · obtain ⟨b, o, rfl, hb, hc⟩ := HA.out (by omega)
          have hi : off + 8 * k + m < l.length := by omega
          have c1 := (below_cells HB.out b _ hb).trans (hc _ _ (bv_at l _ hi))
          have hg0 : l.getD (off + 8 * k + m) false = l[off + 8 * k + m] := by rw [List.getD, List.getElem?_eq_getElem hi]; rfl
          have hstep : byN l (off + 8 * k) (m + 1) = 2 * byN l (off + 8 * k) m + (if l[off + 8 * k + m] = true then 1 else 0) := by rw [← hg0]; rfl
          have hlt2 : byN l (off + 8 * k) (m + 1) < 256 := Nat.lt_of_lt_of_le (byN_lt l (off + 8 * k) (m + 1)) (Nat.pow_le_pow_right (n := 2) (i := m + 1) (j := 8) (by decide) (by omega))
          rw [← HY.out] at hstep
          have HS := Lib.hid hstep
          have HL2 := Lib.hid hlt2
          clear hc hstep hg0 hlt2
          generalize l[off + 8 * k + m] = x at *
          cases x
          · go_wp2
            go_roundw
            case rel => exact ⟨m + 1, 2 * y, by omega, by go_num, by go_num, by have := HS.out; have := HL2.out; simp at *; omega, Lib.hid (by rw [HS.out]; simp), trivial⟩
            case measure => simp [intOf]; omega
          · go_wp2
            go_roundw
            case rel => exact ⟨m + 1, 2 * y + 1, by omega, by go_num, by go_num, by have := HS.out; have := HL2.out; simp at *; omega, Lib.hid (by rw [HS.out]; simp), trivial⟩
            case measure => simp [intOf]; omega
        · obtain rfl : m = 8 := by omega
          have hbase : w.heap.size ≤ wr.heap.size := HB.out.size
          go_wp2_with (at_builtin; refine list_app_rd _ rfl _ _ _ rfl w.heap.size 5 i0 _ 1 Try.underlying24 hi0 hz0 hz1 hz2 rfl _ k (byVs l off k) rfl (HO.out.alloc _) _ _ [.int .u8 y] rfl (Rd.one rfl _ _) (fun u hu => by simp at hu; subst hu; rfl) (by simp only [List.length_singleton]; unfold maxLen; omega) (by simp only [List.length_singleton]; omega) (by simp; omega) ?_; intro v1 w2 ho1 hg1)
          have HB2 := Lib.hid (below_grown (HB.out.alloc hbase (.cells #[.int .u8 y] 5)) hg1 (HO.out.alloc _) (by simp; omega))
          have HO2 : Hid (w2.ownsRow w.heap.size 5 1 v1 (k + 1) (byVs l off (k + 1))) := Lib.hid (by rw [byVs_succ, byV, ← HY.out]; exact ho1)
          clear ho1 hg1
          go_roundw
          case rel => exact ⟨k + 1, by omega, by go_num, HO2, HB2⟩
          case measure => simp [intOf]; omega
    · obtain rfl : k = many := by omega
      go_wp2
      go_ret
      exact ⟨_, rfl, Rd.of_own HO.out, HB.out⟩

/-- spec.BIWords. -/
theorem specWords_any (v : Value) (l : List Bool) (w : World) (hv : Rd w w.heap.size v (bv l)) (hs : l.length ≤ 16384) :
    Calls Try.prog 11 #[v] w fun e w' => ∃ v', e = .returned v' ∧ Rd w' w'.heap.size v' (wv (wordsOf l)) ∧ Below w.heap.size w w' := by
  have hmk := run_mk (P := Try.prog) 26 28 (.int .u32 0) 4 Try.underlying26 info_u32 rfl ((l.length + 31) / 32) (by omega) (by omega) w
  have hX := Blk.fresh w 28 (rep ((l.length + 31) / 32) (.int .u32 0))
  have hB := bal (brf w) (.cells (rep ((l.length + 31) / 32) (.int .u32 0)) 28)
  have hz : w.heap.size < (w.alloc (.cells (rep ((l.length + 31) / 32) (.int .u32 0)) 28)).heap.size := hX.lt
  generalize (w.alloc (.cells (rep ((l.length + 31) / 32) (.int .u32 0)) 28)) = w1 at *
  rw [← wv_rep] at hX
  have hdiv : ((l.length : Int) + 31) / 32 = (((l.length + 31) / 32 : Nat) : Int) := by omega
  obtain ⟨A, cap, rfl, h1, h2, h3⟩ := hv
  rw [bv_len] at *
  unfold maxLen at h2
  have HA := Lib.hid h3; clear h3
  have HX0 := Lib.hid hX; clear hX
  have HB0 := Lib.hid hB; clear hB
  have hn : (l.length + 31) / 32 ≤ 1000 := by omega
  have hn2 : ∀ k, k < l.length → k / 32 < (l.length + 31) / 32 := fun k hk => by omega
  have HN := Lib.hid hn2; clear hn2
  have hwo : wordsOf l = setBits ((l.length + 31) / 32) l l.length := rfl
  have HW := Lib.hid hwo; clear hwo
  generalize (l.length + 31) / 32 = n at *
  go_enter Try.func11, Try.ntmps11
  go_wp2
  go_loopw [4] (fun i wr => ∃ k : Nat, k ≤ l.length ∧ i = .int .i64 k ∧ Hid (Blk wr w.heap.size 28 (wv (setBits n l k)).toArray) ∧ Hid (Below w.heap.size w wr)) (fun i _ => l.length - (intOf i).toNat)
  case atStart => exact ⟨0, Nat.zero_le _, rfl, HX0, HB0⟩
  case round =>
    obtain ⟨k, hk, rfl, HX, HB⟩ := hrel
    clear HX0 HB0
    by_cases hlt : k < l.length
    · obtain ⟨b, o, rfl, hb, hc⟩ := HA.out (by omega)
      have c1 := (below_cells HB.out b _ hb).trans (hc k _ (bv_at l k hlt))
      have hg0 : l.getD k false = l[k] := by rw [List.getD, List.getElem?_eq_getElem hlt]; rfl
      have hst : setBits n l (k + 1) = if l[k] = true then setW (setBits n l k) k else setBits n l k := by rw [← hg0]; rfl
      have HS := Lib.hid hst
      have hlt2 := HN.out k hlt
      have hlen := setBits_len n l k
      have hlts := setBits_lt n l k
      clear hc hst hg0
      generalize setBits n l k = ws at *
      generalize l[k] = x at *
      cases x
      · go_wp2
        go_roundw
        case rel => exact ⟨k + 1, by omega, by go_num, Lib.hid (by rw [HS.out]; exact HX.out), HB⟩
        case measure => simp [intOf]; omega
      · have hlt3 : k / 32 < ws.length := by omega
        have c2 : wr.cell? ⟨w.heap.size, k / 32, none⟩ = some (.int .u32 ((ws[k / 32] : Nat) : Int)) := by rw [HX.out.cell, wv_at _ _ hlt3]
        have f1 := HX.out.frozen (k / 32)
        have hx := hlts _ (List.getElem_mem hlt3)
        have HX2 := Lib.hid (HX.out.put (k / 32) (.int .u32 ((ws[k / 32] ||| 2 ^ (k % 32) : Nat) : Int)))
        have hgs : ws.getD (k / 32) 0 = ws[k / 32] := by rw [List.getD, List.getElem?_eq_getElem hlt3]; rfl
        have HX3 : Hid (Blk (wr.setCell ⟨w.heap.size, k / 32, none⟩ (.int .u32 ((ws[k / 32] ||| 2 ^ (k % 32) : Nat) : Int))) w.heap.size 28 (wv (setBits n l (k + 1))).toArray) := Lib.hid (by rw [HS.out, if_pos rfl, setW, ← wv_set, hgs]; exact HX2.out)
        clear hgs HX2
        generalize ws[k / 32] = y at *
        have e1 : bits .or .u32 (y : Int) ((2 : Int) ^ (k % 32) % 4294967296) = ((y ||| 2 ^ (k % 32) : Nat) : Int) := by
          rw [pow32 _ (Nat.mod_lt _ (by decide))]
          exact u32_or _ _ hx (Nat.pow_lt_pow_right (n := 32) (by decide) (Nat.mod_lt _ (by decide)))
        generalize (y ||| 2 ^ (k % 32)) = z at *
        clear hlts hlen
        go_wp2
        go_roundw
        case rel => exact ⟨k + 1, by omega, by go_num, HX3, Lib.hid (HB.out.setCell (p := ⟨w.heap.size, k / 32, none⟩) (Nat.le_refl _) _)⟩
        case measure => simp [intOf]; omega
    · obtain rfl : k = l.length := by omega
      go_wp2
      go_ret
      refine ⟨_, rfl, ?_, HB.out⟩
      rw [HW.out]
      exact Rd.of_blk HX.out (by rw [wv_len, setBits_len]) (by rw [wv_len, setBits_len]; exact Nat.le_refl _) (by unfold maxLen; omega)

/-- impl.ArrayWords. -/
theorem arrayWords_any (v : Value) (l : List Bool) (w : World) (hv : Rd w w.heap.size v (bv l)) (hs : l.length ≤ 16384) :
    Calls Try.prog 10 #[v] w fun e w' => ∃ v', e = .returned v' ∧ Rd w' w'.heap.size v' (wv (wordsOf l)) ∧ Below w.heap.size w w' := by
  obtain ⟨i0, hi0, hz0, hz1, hz2⟩ := info_parts info_u32
  have hlen : (wordsOf l).length ≤ 1000 := by unfold wordsOf; rw [setBits_len]; omega
  go_enter Try.func10, Try.ntmps10
  go_wp2_with fail
  refine (array_any v l w hv hs).mono ?_
  rintro e w1 ⟨p, g, rfl, hA, hp, hg, hb1⟩
  have c0 : w1.cell? ⟨p, 0, none⟩ = some (.slice (some ⟨g, 0, none⟩) (wordsOf l).length (wordsOf l).length) := by rw [hA.head.cell]; rfl
  have HR : Hid (Rd w1 w1.heap.size (.slice (some ⟨g, 0, none⟩) (wordsOf l).length (wordsOf l).length) (wv (wordsOf l))) := Lib.hid (Rd.of_blk hA.rows (by rw [wv_len]) (by rw [wv_len]; exact Nat.le_refl _) (by unfold maxLen; omega))
  have HB := Lib.hid hb1
  clear hA hb1
  generalize hws : wordsOf l = ws at *
  have HW := Lib.hid hws; clear hws
  go_wp2_with fail
  refine (getBits_any p _ _ c0).mono ?_
  rintro e w2 ⟨rfl, rfl⟩
  have hb1 : (wv ws).length ≤ 1000 := by rw [wv_len]; exact hlen
  go_wp2_with (at_builtin; (refine list_app_rd _ rfl _ _ _ rfl w2.heap.size 28 i0 _ 4 Try.underlying26 hi0 hz0 hz1 hz2 rfl _ 0 [] rfl (own_nil _ _ _) _ _ (wv ws) rfl HR.out (wv_one _) (by unfold maxLen; omega) (by omega) (Nat.le_refl _) ?_; intro v1 w3 ho1 hg1))
  go_ret
  exact ⟨_, rfl, by rw [HW.out]; simpa using Rd.of_own ho1, bup HB.out (below_grown (brf _) hg1 (own_nil _ _ 28) (Nat.le_refl _))⟩
end Go.Proofs.Ytbfkjfgjeaofpaa
