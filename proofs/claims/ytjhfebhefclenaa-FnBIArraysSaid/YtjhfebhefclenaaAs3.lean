/-
  WALK: spec.BISteps.
-/
import Derived.Test.YtjhfebhefclenaaAs2
namespace Go.Proofs.Ytjhfebhefclenaa
open Go.RowKit

theorem mulk (k : Nat) (h : k ≤ 30) : (k + 1) * 48 ≤ 140737488355328 := by omega
theorem stC_one (s : Step) (A : Option Addr) (n c : Nat) : ∀ x ∈ stC s (.slice A n c), x.oneCell' = true := fun x hx => by
  simp only [stC, List.mem_cons, List.not_mem_nil, or_false] at hx
  rcases hx with rfl | rfl | rfl | rfl <;> rfl
theorem stC_cell {w : World} {b : Nat} (hb : w.heap.size = b) (s : Step) (u : Value) (T : TypeId) : ∀ j x, (stC s u)[j]? = some x → (w.alloc (.cells #[.int .i64 s.op, .int .i64 s.a, .int .i64 s.b, u] T)).cell? ((⟨b, 0, none⟩ : Addr).add j) = some x := fun j x hx => by
  subst hb
  have e : (⟨w.heap.size, 0, none⟩ : Addr).add j = ⟨w.heap.size, 0 + j, none⟩ := by unfold Addr.add; split <;> simp_all
  rw [e, (Blk.fresh w T _).cell, Nat.zero_add]
  have : (#[Value.int .i64 s.op, .int .i64 s.a, .int .i64 s.b, u] : Array Value)[j]? = (stC s u)[j]? := by simp [stC]
  rw [this, hx]
theorem and_31 (a : Int) : ∃ r : Nat, bits .and .i64 a 2147483647 = (r : Int) ∧ r < 2147483648 := by
  have hx : (BitVec.ofInt 64 a).toNat &&& 2147483647 < 2 ^ 31 := Nat.and_lt_two_pow _ (by decide)
  refine ⟨(BitVec.ofInt 64 a).toNat &&& 2147483647, ?_, hx⟩
  show IntKind.i64.wrap ((BitVec.ofInt 64 a &&& BitVec.ofInt 64 2147483647).toNat : Int) = _
  have e : (BitVec.ofInt 64 2147483647).toNat = 2147483647 := by decide
  rw [BitVec.toNat_and, e, IntKind.wrap_i64]
  omega
theorem tmod36 (b : Int) : -36 < Int.tmod b 36 ∧ Int.tmod b 36 < 36 := by
  rw [Int.tmod_eq_emod]
  have h1 := Int.emod_nonneg b (b := 36) (by decide)
  have h2 := Int.emod_lt_of_pos b (show (0 : Int) < 36 by decide)
  split <;> simp <;> omega
/-- Steps that can be taken are returned. -/
def StepsOut (n : Nat) (w : World) (e : Ending) (w' : World) : Prop := ∃ v' os, e = .returned v' ∧ RdS w' w'.heap.size v' os ∧ OkL n os ∧ os.length ≤ 30 ∧ Below w.heap.size w w'
theorem tmod_lt (a m : Int) (hm : 0 < m) : -m < Int.tmod a m ∧ Int.tmod a m < m := by
  rw [Int.tmod_eq_emod]
  have h1 := Int.emod_nonneg a (b := m) (by omega)
  have h2 := Int.emod_lt_of_pos a hm
  have h3 : (m.natAbs : Int) = m := by omega
  split
  · omega
  · rw [h3]
    rename_i h
    have h4 : a % m ≠ 0 := fun h0 => h (.inr (Int.dvd_of_emod_eq_zero h0))
    omega
set_option maxRecDepth 100000 in
set_option maxHeartbeats 4000000 in
theorem bisteps_any (v : Value) (st : List Step) (n : Nat) (w : World) (hv : RdS w w.heap.size v st) (hn : n ≤ 200) (hfit : ∀ s ∈ st, s.bits.length ≤ 2147483647) :
    Calls Try.prog 6 #[.int .i64 n, v, .int .i64 30] w (StepsOut n w) := by
  obtain ⟨i0, hi0, hz0, hz1, hz2⟩ := st_parts
  obtain ⟨A, cap, rfl, h1, h2, h3⟩ := hv
  unfold maxLen at h2
  have HA := Lib.hid h3; clear h3
  have HFit := Lib.hid hfit; clear hfit
  go_enter Try.func6, Try.ntmps6
  go_wp2_with fail
  go_loopw [0, 7, 8] (fun sv ov iv wr => ∃ (i m k : Nat) (os : List Step) (cells : List Value), i ≤ 30 ∧ i ≤ st.length ∧ k ≤ i ∧ k = os.length ∧ sv = .int .i64 m ∧ m ≤ 200 + 70 * i ∧ iv = .int .i64 i ∧ Hid (m = sizeK n os os.length) ∧ Hid (StL w w.heap.size cells os) ∧ Hid (OkL n os) ∧ Hid (wr.ownsRow w.heap.size 32 4 ov k cells) ∧ Hid (Below w.heap.size w wr)) (fun _ _ iv _ => 31 - (intOf iv).toNat)
  case atStart => exact ⟨0, n, 0, [], [], by omega, Nat.zero_le _, by omega, rfl, rfl, by omega, rfl, Lib.hid rfl, Lib.hid (StL.nil_ _ _), Lib.hid (OkL.nil_ n), Lib.hid ⟨rfl, .inl ⟨rfl, rfl⟩⟩, Lib.hid (brf w)⟩
  case round =>
    obtain ⟨i, m, k, os, cells, hi30, hi, hk, hkl, rfl, hm, rfl, HM, HS, HK, HO, HB⟩ := hrel
    by_cases hgo : i < st.length ∧ i < 30
    · obtain ⟨hlt, hlt30⟩ := hgo
      obtain ⟨g, o, rfl, hg, hc⟩ := HA.out (by omega)
      obtain ⟨s, hs⟩ : ∃ s, st[i]? = some s := ⟨_, List.getElem?_eq_getElem hlt⟩
      obtain ⟨u, hu⟩ := hc i s hs
      have hfs := HFit.out s (List.mem_of_getElem? hs)
      have HU := hu.below HB.out hg
      have HURd := Lib.hid hu.rd
      have d0 := HU.c0
      have d1 := HU.c1
      have d2 := HU.c2
      have d3 := HU.c3
      have HKL := Lib.hid hkl
      obtain ⟨A', c', rfl, k1, k2⟩ := hu.rd.form
      obtain ⟨op, sa, sb, bl⟩ := s
      rw [bv_len] at d3 HURd k1
      unfold maxLen at k2
      dsimp only at d0 d1 d2 d3 HURd hfs k1
      clear HU hu hc hs hkl
      by_cases o4 : op = 4
      · subst o4
        have HOK : Hid (OkS m ⟨4, sa, sb, bl⟩) := Lib.hid ⟨by dsimp only; omega, fun h => by simp at h, fun h => by simp at h, fun h => by simp at h, fun h => by simp at h, hfs⟩
        have HMS : Hid (m = sizeS m ⟨4, sa, sb, bl⟩) := Lib.hid rfl
        have HZ := Lib.hid (bal (brf wr) (.cells #[.int .i64 4, .int .i64 sa, .int .i64 sb, .slice A' bl.length c'] 32))
        go_wp2_with (with_reducible refine stop_at (o := ⟨some 104, _, _, _, _, _⟩) ?_)
        refine Lib.hid ?_
        refine list_app4 rfl _ _ _ rfl w.heap.size 32 i0 _ 48 Try.underlying23 hi0 hz0 hz1 hz2 rfl _ k cells rfl (own_up HO.out (HZ.out.alloc HZ.out.size _)) _ _ (stC (⟨4, sa, sb, bl⟩ : Step) (.slice A' bl.length c')) rfl rfl (stC_cell (by simp) (⟨4, sa, sb, bl⟩ : Step) (.slice A' bl.length c') _) (stC_one _ _ _ _) (by unfold maxLen; omega) (mulk k (by omega)) (by have h1 := HB.out.size; have h2 := HZ.out.size; (try simp at h2); simp; omega) ?_
        intro v1 w2 ho1 hg1
        have HB2 : Hid (Below w.heap.size w w2) := Lib.hid (below_grown ((HB.out.trans (HZ.out.mono HB.out.size)).alloc (Nat.le_trans HB.out.size HZ.out.size) _) hg1 (own_up HO.out (HZ.out.alloc HZ.out.size _)) (by have h1 := HB.out.size; have h2 := HZ.out.size; (try simp at h2); simp; omega))
        have HO2 := Lib.hid ho1
        have HS2 := Lib.hid (HS.out.app (s := (⟨4, sa, sb, bl⟩ : Step)) HURd.out)
        have HK2 := Lib.hid (HK.out.app (s := (⟨4, sa, sb, bl⟩ : Step)) (by rw [← HM.out]; exact HOK.out))
        have HM2 : Hid (m = sizeK n (os ++ [(⟨4, sa, sb, bl⟩ : Step)]) (os ++ [(⟨4, sa, sb, bl⟩ : Step)]).length) := Lib.hid (by rw [sizeK_last, ← HM.out]; exact HMS.out)
        clear ho1 hg1 HB HO HS HK HM HZ HOK HMS
        go_wp2
        go_roundw
        case rel => exact ⟨i + 1, m, k + 1, os ++ [(⟨4, sa, sb, bl⟩ : Step)], cells ++ stC (⟨4, sa, sb, bl⟩ : Step) (.slice A' bl.length c'), by omega, by omega, by omega, by simp [HKL.out], rfl, by omega, by go_num, HM2, HS2, HK2, HO2, HB2⟩
        case measure => simp [intOf]; omega
      by_cases o8 : op = 8
      · subst o8
        have HOK : Hid (OkS m ⟨8, sa, sb, bl⟩) := Lib.hid ⟨by dsimp only; omega, fun h => by simp at h, fun h => by simp at h, fun h => by simp at h, fun h => by simp at h, hfs⟩
        have HMS : Hid (m = sizeS m ⟨8, sa, sb, bl⟩) := Lib.hid rfl
        have HZ := Lib.hid (bal (brf wr) (.cells #[.int .i64 8, .int .i64 sa, .int .i64 sb, .slice A' bl.length c'] 32))
        go_wp2_with (with_reducible refine stop_at (o := ⟨some 104, _, _, _, _, _⟩) ?_)
        refine Lib.hid ?_
        refine list_app4 rfl _ _ _ rfl w.heap.size 32 i0 _ 48 Try.underlying23 hi0 hz0 hz1 hz2 rfl _ k cells rfl (own_up HO.out (HZ.out.alloc HZ.out.size _)) _ _ (stC (⟨8, sa, sb, bl⟩ : Step) (.slice A' bl.length c')) rfl rfl (stC_cell (by simp) (⟨8, sa, sb, bl⟩ : Step) (.slice A' bl.length c') _) (stC_one _ _ _ _) (by unfold maxLen; omega) (mulk k (by omega)) (by have h1 := HB.out.size; have h2 := HZ.out.size; (try simp at h2); simp; omega) ?_
        intro v1 w2 ho1 hg1
        have HB2 : Hid (Below w.heap.size w w2) := Lib.hid (below_grown ((HB.out.trans (HZ.out.mono HB.out.size)).alloc (Nat.le_trans HB.out.size HZ.out.size) _) hg1 (own_up HO.out (HZ.out.alloc HZ.out.size _)) (by have h1 := HB.out.size; have h2 := HZ.out.size; (try simp at h2); simp; omega))
        have HO2 := Lib.hid ho1
        have HS2 := Lib.hid (HS.out.app (s := (⟨8, sa, sb, bl⟩ : Step)) HURd.out)
        have HK2 := Lib.hid (HK.out.app (s := (⟨8, sa, sb, bl⟩ : Step)) (by rw [← HM.out]; exact HOK.out))
        have HM2 : Hid (m = sizeK n (os ++ [(⟨8, sa, sb, bl⟩ : Step)]) (os ++ [(⟨8, sa, sb, bl⟩ : Step)]).length) := Lib.hid (by rw [sizeK_last, ← HM.out]; exact HMS.out)
        clear ho1 hg1 HB HO HS HK HM HZ HOK HMS
        go_wp2
        go_roundw
        case rel => exact ⟨i + 1, m, k + 1, os ++ [(⟨8, sa, sb, bl⟩ : Step)], cells ++ stC (⟨8, sa, sb, bl⟩ : Step) (.slice A' bl.length c'), by omega, by omega, by omega, by simp [HKL.out], rfl, by omega, by go_num, HM2, HS2, HK2, HO2, HB2⟩
        case measure => simp [intOf]; omega
      by_cases o9 : op = 9
      · subst o9
        by_cases hm0 : m = 0
        · subst hm0
          have HB2 : Hid (Below w.heap.size w (wr.alloc (.cells #[.int .i64 9, .int .i64 sa, .int .i64 sb, .slice A' bl.length c'] 32))) := Lib.hid (HB.out.alloc HB.out.size _)
          have HO2 := Lib.hid (HO.out.alloc (.cells #[.int .i64 9, .int .i64 sa, .int .i64 sb, .slice A' bl.length c'] 32))
          go_wp2_with fail
          go_roundw
          case rel => exact ⟨i + 1, 0, k, os, cells, by omega, by omega, by omega, HKL.out, rfl, by omega, by go_num, HM, HS, HK, HO2, HB2⟩
          case measure => simp [intOf]; omega
        · have hm1 : ((m : Int) == 0) = false := by simp; omega
          have HOK : Hid (OkS m ⟨9, sa, sb, bl⟩) := Lib.hid ⟨by dsimp only; omega, fun h => by simp at h, fun _ => by omega, fun h => by simp at h, fun h => by simp at h, hfs⟩
          have HMS : Hid (m = sizeS m ⟨9, sa, sb, bl⟩) := Lib.hid rfl
          have HZ := Lib.hid (bal (brf wr) (.cells #[.int .i64 9, .int .i64 sa, .int .i64 sb, .slice A' bl.length c'] 32))
          go_wp2_with (with_reducible refine stop_at (o := ⟨some 104, _, _, _, _, _⟩) ?_)
          refine Lib.hid ?_
          refine list_app4 rfl _ _ _ rfl w.heap.size 32 i0 _ 48 Try.underlying23 hi0 hz0 hz1 hz2 rfl _ k cells rfl (own_up HO.out (HZ.out.alloc HZ.out.size _)) _ _ (stC (⟨9, sa, sb, bl⟩ : Step) (.slice A' bl.length c')) rfl rfl (stC_cell (by simp) (⟨9, sa, sb, bl⟩ : Step) (.slice A' bl.length c') _) (stC_one _ _ _ _) (by unfold maxLen; omega) (mulk k (by omega)) (by have h1 := HB.out.size; have h2 := HZ.out.size; (try simp at h2); simp; omega) ?_
          intro v1 w2 ho1 hg1
          have HB2 : Hid (Below w.heap.size w w2) := Lib.hid (below_grown ((HB.out.trans (HZ.out.mono HB.out.size)).alloc (Nat.le_trans HB.out.size HZ.out.size) _) hg1 (own_up HO.out (HZ.out.alloc HZ.out.size _)) (by have h1 := HB.out.size; have h2 := HZ.out.size; (try simp at h2); simp; omega))
          have HO2 := Lib.hid ho1
          have HS2 := Lib.hid (HS.out.app (s := (⟨9, sa, sb, bl⟩ : Step)) HURd.out)
          have HK2 := Lib.hid (HK.out.app (s := (⟨9, sa, sb, bl⟩ : Step)) (by rw [← HM.out]; exact HOK.out))
          have HM2 : Hid (m = sizeK n (os ++ [(⟨9, sa, sb, bl⟩ : Step)]) (os ++ [(⟨9, sa, sb, bl⟩ : Step)]).length) := Lib.hid (by rw [sizeK_last, ← HM.out]; exact HMS.out)
          clear ho1 hg1 HB HO HS HK HM HZ HOK HMS
          go_wp2
          go_roundw
          case rel => exact ⟨i + 1, m, k + 1, os ++ [(⟨9, sa, sb, bl⟩ : Step)], cells ++ stC (⟨9, sa, sb, bl⟩ : Step) (.slice A' bl.length c'), by omega, by omega, by omega, by simp [HKL.out], rfl, by omega, by go_num, HM2, HS2, HK2, HO2, HB2⟩
          case measure => simp [intOf]; omega
      by_cases o1 : op = 1
      · subst o1
        by_cases hm0 : m = 0
        · subst hm0
          have HB2 : Hid (Below w.heap.size w (wr.alloc (.cells #[.int .i64 1, .int .i64 sa, .int .i64 sb, .slice A' bl.length c'] 32))) := Lib.hid (HB.out.alloc HB.out.size _)
          have HO2 := Lib.hid (HO.out.alloc (.cells #[.int .i64 1, .int .i64 sa, .int .i64 sb, .slice A' bl.length c'] 32))
          go_wp2_with fail
          go_roundw
          case rel => exact ⟨i + 1, 0, k, os, cells, by omega, by omega, by omega, HKL.out, rfl, by omega, by go_num, HM, HS, HK, HO2, HB2⟩
          case measure => simp [intOf]; omega
        · have hmp : (0 : Int) < (m : Int) := by omega
          have hm1 : ((m : Int) == 0) = false := by simp; omega
          have r1 := Int.emod_nonneg sa (b := (m : Int)) (by omega)
          have r2 := Int.emod_lt_of_pos sa hmp
          have hel := element_any 0 (m : Int) 0 sa (wr.alloc (.cells #[.int .i64 1, .int .i64 sa, .int .i64 sb, .slice A' bl.length c'] 32)) hmp (by omega)
          generalize hq : sa % (m : Int) = q at *
          clear hq
          have HBlk := Lib.hid (Blk.fresh wr 32 #[.int .i64 1, .int .i64 sa, .int .i64 sb, .slice A' bl.length c'])
          have HZ := Lib.hid (bal (brf wr) (.cells #[.int .i64 1, .int .i64 sa, .int .i64 sb, .slice A' bl.length c'] 32))
          go_wp2_with fail
          refine hel.mono ?_
          rintro e w3 ⟨rfl, hb3⟩
          have hblk := HBlk.out.up hb3
          have b0 : w3.cell? ⟨wr.heap.size, 0, none⟩ = some (.int .i64 1) := by rw [hblk.cell]; rfl
          have b1 : w3.cell? ⟨wr.heap.size, 1, none⟩ = some (.int .i64 sa) := by rw [hblk.cell]; rfl
          have b2 : w3.cell? ⟨wr.heap.size, 2, none⟩ = some (.int .i64 sb) := by rw [hblk.cell]; rfl
          have b3 : w3.cell? ⟨wr.heap.size, 3, none⟩ = some (.slice A' bl.length c') := by rw [hblk.cell]; rfl
          have bf := hblk.frozen 1
          have HZ : Hid (Below wr.heap.size wr (w3.setCell ⟨wr.heap.size, 1, none⟩ (.int .i64 q))) := Lib.hid ((HZ.out.trans (hb3.mono (by simp))).setCell (p := ⟨wr.heap.size, 1, none⟩) (Nat.le_refl _) _)
          have HOK : Hid (OkS m ⟨1, q, sb, bl⟩) := Lib.hid ⟨by dsimp only; omega, fun _ => ⟨r1, r2⟩, fun h => by simp at h, fun h => by simp at h, fun h => by simp at h, hfs⟩
          have HMS : Hid (m = sizeS m ⟨1, q, sb, bl⟩) := Lib.hid rfl
          clear hblk hb3 hel d0 d1 d2 d3
          go_wp2_with (with_reducible refine stop_at (o := ⟨some 104, _, _, _, _, _⟩) ?_)
          refine Lib.hid ?_
          refine list_app4 rfl _ _ _ rfl w.heap.size 32 i0 _ 48 Try.underlying23 hi0 hz0 hz1 hz2 rfl _ k cells rfl (own_up HO.out (HZ.out.alloc HZ.out.size _)) _ _ (stC (⟨1, q, sb, bl⟩ : Step) (.slice A' bl.length c')) rfl rfl (stC_cell (by simp) (⟨1, q, sb, bl⟩ : Step) (.slice A' bl.length c') _) (stC_one _ _ _ _) (by unfold maxLen; omega) (mulk k (by omega)) (by have h1 := HB.out.size; have h2 := HZ.out.size; (try simp at h2); simp; omega) ?_
          intro v1 w2 ho1 hg1
          have HB2 : Hid (Below w.heap.size w w2) := Lib.hid (below_grown ((HB.out.trans (HZ.out.mono HB.out.size)).alloc (Nat.le_trans HB.out.size HZ.out.size) _) hg1 (own_up HO.out (HZ.out.alloc HZ.out.size _)) (by have h1 := HB.out.size; have h2 := HZ.out.size; (try simp at h2); simp; omega))
          have HO2 := Lib.hid ho1
          have HS2 := Lib.hid (HS.out.app (s := (⟨1, q, sb, bl⟩ : Step)) HURd.out)
          have HK2 := Lib.hid (HK.out.app (s := (⟨1, q, sb, bl⟩ : Step)) (by rw [← HM.out]; exact HOK.out))
          have HM2 : Hid (m = sizeK n (os ++ [(⟨1, q, sb, bl⟩ : Step)]) (os ++ [(⟨1, q, sb, bl⟩ : Step)]).length) := Lib.hid (by rw [sizeK_last, ← HM.out]; exact HMS.out)
          clear ho1 hg1 HB HO HS HK HM HZ HOK HMS
          go_wp2
          go_roundw
          case rel => exact ⟨i + 1, m, k + 1, os ++ [(⟨1, q, sb, bl⟩ : Step)], cells ++ stC (⟨1, q, sb, bl⟩ : Step) (.slice A' bl.length c'), by omega, by omega, by omega, by simp [HKL.out], rfl, by omega, by go_num, HM2, HS2, HK2, HO2, HB2⟩
          case measure => simp [intOf]; omega
      by_cases o2 : op = 2
      · subst o2
        by_cases hm0 : m = 0
        · subst hm0
          have HB2 : Hid (Below w.heap.size w (wr.alloc (.cells #[.int .i64 2, .int .i64 sa, .int .i64 sb, .slice A' bl.length c'] 32))) := Lib.hid (HB.out.alloc HB.out.size _)
          have HO2 := Lib.hid (HO.out.alloc (.cells #[.int .i64 2, .int .i64 sa, .int .i64 sb, .slice A' bl.length c'] 32))
          go_wp2_with fail
          go_roundw
          case rel => exact ⟨i + 1, 0, k, os, cells, by omega, by omega, by omega, HKL.out, rfl, by omega, by go_num, HM, HS, HK, HO2, HB2⟩
          case measure => simp [intOf]; omega
        · have hmp : (0 : Int) < (m : Int) := by omega
          have hm1 : ((m : Int) == 0) = false := by simp; omega
          have r1 := Int.emod_nonneg sa (b := (m : Int)) (by omega)
          have r2 := Int.emod_lt_of_pos sa hmp
          have hel := element_any 0 (m : Int) 0 sa (wr.alloc (.cells #[.int .i64 2, .int .i64 sa, .int .i64 sb, .slice A' bl.length c'] 32)) hmp (by omega)
          generalize hq : sa % (m : Int) = q at *
          clear hq
          have HBlk := Lib.hid (Blk.fresh wr 32 #[.int .i64 2, .int .i64 sa, .int .i64 sb, .slice A' bl.length c'])
          have HZ := Lib.hid (bal (brf wr) (.cells #[.int .i64 2, .int .i64 sa, .int .i64 sb, .slice A' bl.length c'] 32))
          go_wp2_with fail
          refine hel.mono ?_
          rintro e w3 ⟨rfl, hb3⟩
          have hblk := HBlk.out.up hb3
          have b0 : w3.cell? ⟨wr.heap.size, 0, none⟩ = some (.int .i64 2) := by rw [hblk.cell]; rfl
          have b1 : w3.cell? ⟨wr.heap.size, 1, none⟩ = some (.int .i64 sa) := by rw [hblk.cell]; rfl
          have b2 : w3.cell? ⟨wr.heap.size, 2, none⟩ = some (.int .i64 sb) := by rw [hblk.cell]; rfl
          have b3 : w3.cell? ⟨wr.heap.size, 3, none⟩ = some (.slice A' bl.length c') := by rw [hblk.cell]; rfl
          have bf := hblk.frozen 1
          have HZ : Hid (Below wr.heap.size wr (w3.setCell ⟨wr.heap.size, 1, none⟩ (.int .i64 q))) := Lib.hid ((HZ.out.trans (hb3.mono (by simp))).setCell (p := ⟨wr.heap.size, 1, none⟩) (Nat.le_refl _) _)
          have HOK : Hid (OkS m ⟨2, q, sb, bl⟩) := Lib.hid ⟨by dsimp only; omega, fun _ => ⟨r1, r2⟩, fun h => by simp at h, fun h => by simp at h, fun h => by simp at h, hfs⟩
          have HMS : Hid (m = sizeS m ⟨2, q, sb, bl⟩) := Lib.hid rfl
          clear hblk hb3 hel d0 d1 d2 d3
          go_wp2_with (with_reducible refine stop_at (o := ⟨some 104, _, _, _, _, _⟩) ?_)
          refine Lib.hid ?_
          refine list_app4 rfl _ _ _ rfl w.heap.size 32 i0 _ 48 Try.underlying23 hi0 hz0 hz1 hz2 rfl _ k cells rfl (own_up HO.out (HZ.out.alloc HZ.out.size _)) _ _ (stC (⟨2, q, sb, bl⟩ : Step) (.slice A' bl.length c')) rfl rfl (stC_cell (by simp) (⟨2, q, sb, bl⟩ : Step) (.slice A' bl.length c') _) (stC_one _ _ _ _) (by unfold maxLen; omega) (mulk k (by omega)) (by have h1 := HB.out.size; have h2 := HZ.out.size; (try simp at h2); simp; omega) ?_
          intro v1 w2 ho1 hg1
          have HB2 : Hid (Below w.heap.size w w2) := Lib.hid (below_grown ((HB.out.trans (HZ.out.mono HB.out.size)).alloc (Nat.le_trans HB.out.size HZ.out.size) _) hg1 (own_up HO.out (HZ.out.alloc HZ.out.size _)) (by have h1 := HB.out.size; have h2 := HZ.out.size; (try simp at h2); simp; omega))
          have HO2 := Lib.hid ho1
          have HS2 := Lib.hid (HS.out.app (s := (⟨2, q, sb, bl⟩ : Step)) HURd.out)
          have HK2 := Lib.hid (HK.out.app (s := (⟨2, q, sb, bl⟩ : Step)) (by rw [← HM.out]; exact HOK.out))
          have HM2 : Hid (m = sizeK n (os ++ [(⟨2, q, sb, bl⟩ : Step)]) (os ++ [(⟨2, q, sb, bl⟩ : Step)]).length) := Lib.hid (by rw [sizeK_last, ← HM.out]; exact HMS.out)
          clear ho1 hg1 HB HO HS HK HM HZ HOK HMS
          go_wp2
          go_roundw
          case rel => exact ⟨i + 1, m, k + 1, os ++ [(⟨2, q, sb, bl⟩ : Step)], cells ++ stC (⟨2, q, sb, bl⟩ : Step) (.slice A' bl.length c'), by omega, by omega, by omega, by simp [HKL.out], rfl, by omega, by go_num, HM2, HS2, HK2, HO2, HB2⟩
          case measure => simp [intOf]; omega
      by_cases o5 : op = 5
      · subst o5
        obtain ⟨m2, hm2⟩ : ∃ m2, m2 = m + 1 := ⟨_, rfl⟩
        have hm3 : (m : Int) + 1 = (m2 : Int) := by omega
        have HOK : Hid (OkS m ⟨5, sa, sb, bl⟩) := Lib.hid ⟨by dsimp only; omega, fun h => by simp at h, fun h => by simp at h, fun h => by simp at h, fun h => by simp at h, hfs⟩
        have HMS : Hid (m2 = sizeS m ⟨5, sa, sb, bl⟩) := Lib.hid hm2
        have HZ := Lib.hid (bal (brf wr) (.cells #[.int .i64 5, .int .i64 sa, .int .i64 sb, .slice A' bl.length c'] 32))
        have hmb : m2 ≤ m + 70 := by omega
        clear hm2
        go_wp2_with (with_reducible refine stop_at (o := ⟨some 104, _, _, _, _, _⟩) ?_)
        refine Lib.hid ?_
        refine list_app4 rfl _ _ _ rfl w.heap.size 32 i0 _ 48 Try.underlying23 hi0 hz0 hz1 hz2 rfl _ k cells rfl (own_up HO.out (HZ.out.alloc HZ.out.size _)) _ _ (stC (⟨5, sa, sb, bl⟩ : Step) (.slice A' bl.length c')) rfl rfl (stC_cell (by simp) (⟨5, sa, sb, bl⟩ : Step) (.slice A' bl.length c') _) (stC_one _ _ _ _) (by unfold maxLen; omega) (mulk k (by omega)) (by have h1 := HB.out.size; have h2 := HZ.out.size; (try simp at h2); simp; omega) ?_
        intro v1 w2 ho1 hg1
        have HB2 : Hid (Below w.heap.size w w2) := Lib.hid (below_grown ((HB.out.trans (HZ.out.mono HB.out.size)).alloc (Nat.le_trans HB.out.size HZ.out.size) _) hg1 (own_up HO.out (HZ.out.alloc HZ.out.size _)) (by have h1 := HB.out.size; have h2 := HZ.out.size; (try simp at h2); simp; omega))
        have HO2 := Lib.hid ho1
        have HS2 := Lib.hid (HS.out.app (s := (⟨5, sa, sb, bl⟩ : Step)) HURd.out)
        have HK2 := Lib.hid (HK.out.app (s := (⟨5, sa, sb, bl⟩ : Step)) (by rw [← HM.out]; exact HOK.out))
        have HM2 : Hid (m2 = sizeK n (os ++ [(⟨5, sa, sb, bl⟩ : Step)]) (os ++ [(⟨5, sa, sb, bl⟩ : Step)]).length) := Lib.hid (by rw [sizeK_last, ← HM.out]; exact HMS.out)
        clear ho1 hg1 HB HO HS HK HM HZ HOK HMS
        go_wp2
        go_roundw
        case rel => exact ⟨i + 1, m2, k + 1, os ++ [(⟨5, sa, sb, bl⟩ : Step)], cells ++ stC (⟨5, sa, sb, bl⟩ : Step) (.slice A' bl.length c'), by omega, by omega, by omega, by simp [HKL.out], rfl, by omega, by go_num, HM2, HS2, HK2, HO2, HB2⟩
        case measure => simp [intOf]; omega
      by_cases o7 : op = 7
      · subst o7
        by_cases hlong : 70 < bl.length
        · have hl2 : (70 : Int) < (bl.length : Int) := by omega
          have hl3 : 70 ≤ c' := by omega
          obtain ⟨m2, hm2⟩ : ∃ m2, m2 = m + 70 := ⟨_, rfl⟩
          have hm3 : (m : Int) + 70 = (m2 : Int) := by omega
          have hmb : m2 ≤ m + 70 := by omega
          have htl : (bl.take 70).length = 70 := by rw [List.length_take]; omega
          have HOK : Hid (OkS m ⟨7, sa, sb, bl.take 70⟩) := Lib.hid ⟨by dsimp only; omega, fun h => by simp at h, fun h => by simp at h, fun h => by simp at h, fun _ => by dsimp only; omega, by dsimp only; omega⟩
          have HMS : Hid (m2 = sizeS m ⟨7, sa, sb, bl.take 70⟩) := Lib.hid (by rw [hm2]; unfold sizeS; dsimp only; rw [if_neg (by omega), if_neg (by omega), if_pos rfl, htl])
          have HURd2 : Hid (Rd w w.heap.size (.slice A' 70 c') (bv (bl.take 70))) := Lib.hid (by
            have := HURd.out.take (k := 70) (by omega)
            unfold bv at this ⊢
            rwa [← List.map_take] at this)
          have HZ := Lib.hid (bal (brf wr) (.cells #[.int .i64 7, .int .i64 sa, .int .i64 sb, .slice A' 70 c'] 32))
          clear hm2 htl hlong
          obtain ⟨A2, rfl⟩ : ∃ A2 : Addr, A' = some A2 := by
            obtain ⟨A0, c0, hv0, -, -, h30⟩ := HURd.out
            injection hv0 with e1 _ _
            obtain ⟨b, o, e2, -⟩ := h30 (by rw [bv_len]; omega)
            exact ⟨_, e1.trans e2⟩
          go_wp2_with (with_reducible refine stop_at (o := ⟨some 104, _, _, _, _, _⟩) ?_)
          refine Lib.hid ?_
          refine list_app4 rfl _ _ _ rfl w.heap.size 32 i0 _ 48 Try.underlying23 hi0 hz0 hz1 hz2 rfl _ k cells rfl (own_up HO.out (HZ.out.alloc HZ.out.size _)) _ _ (stC (⟨7, sa, sb, bl.take 70⟩ : Step) (.slice (some A2) 70 c')) rfl rfl (stC_cell (by simp) (⟨7, sa, sb, bl.take 70⟩ : Step) (.slice (some A2) 70 c') _) (stC_one _ _ _ _) (by unfold maxLen; omega) (mulk k (by omega)) (by have h1 := HB.out.size; have h2 := HZ.out.size; (try simp at h2); simp; omega) ?_
          intro v1 w2 ho1 hg1
          have HB2 : Hid (Below w.heap.size w w2) := Lib.hid (below_grown ((HB.out.trans (HZ.out.mono HB.out.size)).alloc (Nat.le_trans HB.out.size HZ.out.size) _) hg1 (own_up HO.out (HZ.out.alloc HZ.out.size _)) (by have h1 := HB.out.size; have h2 := HZ.out.size; (try simp at h2); simp; omega))
          have HO2 := Lib.hid ho1
          have HS2 := Lib.hid (HS.out.app (s := (⟨7, sa, sb, bl.take 70⟩ : Step)) HURd2.out)
          have HK2 := Lib.hid (HK.out.app (s := (⟨7, sa, sb, bl.take 70⟩ : Step)) (by rw [← HM.out]; exact HOK.out))
          have HM2 : Hid (m2 = sizeK n (os ++ [(⟨7, sa, sb, bl.take 70⟩ : Step)]) (os ++ [(⟨7, sa, sb, bl.take 70⟩ : Step)]).length) := Lib.hid (by rw [sizeK_last, ← HM.out]; exact HMS.out)
          clear ho1 hg1 HB HO HS HK HM HZ HOK HMS
          go_wp2
          go_roundw
          case rel => exact ⟨i + 1, m2, k + 1, os ++ [(⟨7, sa, sb, bl.take 70⟩ : Step)], cells ++ stC (⟨7, sa, sb, bl.take 70⟩ : Step) (.slice (some A2) 70 c'), by omega, by omega, by omega, by simp [HKL.out], rfl, by omega, by go_num, HM2, HS2, HK2, HO2, HB2⟩
          case measure => simp [intOf]; omega
        · have hl2 : ¬ (70 : Int) < (bl.length : Int) := by omega
          obtain ⟨m2, hm2⟩ : ∃ m2, m2 = m + bl.length := ⟨_, rfl⟩
          have hm3 : (m : Int) + (bl.length : Int) = (m2 : Int) := by omega
          have hmb : m2 ≤ m + 70 := by omega
          have HOK : Hid (OkS m ⟨7, sa, sb, bl⟩) := Lib.hid ⟨by dsimp only; omega, fun h => by simp at h, fun h => by simp at h, fun h => by simp at h, fun _ => by dsimp only; omega, hfs⟩
          have HMS : Hid (m2 = sizeS m ⟨7, sa, sb, bl⟩) := Lib.hid hm2
          have HZ := Lib.hid (bal (brf wr) (.cells #[.int .i64 7, .int .i64 sa, .int .i64 sb, .slice A' bl.length c'] 32))
          clear hm2 hlong
          go_wp2_with (with_reducible refine stop_at (o := ⟨some 104, _, _, _, _, _⟩) ?_)
          refine Lib.hid ?_
          refine list_app4 rfl _ _ _ rfl w.heap.size 32 i0 _ 48 Try.underlying23 hi0 hz0 hz1 hz2 rfl _ k cells rfl (own_up HO.out (HZ.out.alloc HZ.out.size _)) _ _ (stC (⟨7, sa, sb, bl⟩ : Step) (.slice A' bl.length c')) rfl rfl (stC_cell (by simp) (⟨7, sa, sb, bl⟩ : Step) (.slice A' bl.length c') _) (stC_one _ _ _ _) (by unfold maxLen; omega) (mulk k (by omega)) (by have h1 := HB.out.size; have h2 := HZ.out.size; (try simp at h2); simp; omega) ?_
          intro v1 w2 ho1 hg1
          have HB2 : Hid (Below w.heap.size w w2) := Lib.hid (below_grown ((HB.out.trans (HZ.out.mono HB.out.size)).alloc (Nat.le_trans HB.out.size HZ.out.size) _) hg1 (own_up HO.out (HZ.out.alloc HZ.out.size _)) (by have h1 := HB.out.size; have h2 := HZ.out.size; (try simp at h2); simp; omega))
          have HO2 := Lib.hid ho1
          have HS2 := Lib.hid (HS.out.app (s := (⟨7, sa, sb, bl⟩ : Step)) HURd.out)
          have HK2 := Lib.hid (HK.out.app (s := (⟨7, sa, sb, bl⟩ : Step)) (by rw [← HM.out]; exact HOK.out))
          have HM2 : Hid (m2 = sizeK n (os ++ [(⟨7, sa, sb, bl⟩ : Step)]) (os ++ [(⟨7, sa, sb, bl⟩ : Step)]).length) := Lib.hid (by rw [sizeK_last, ← HM.out]; exact HMS.out)
          clear ho1 hg1 HB HO HS HK HM HZ HOK HMS
          go_wp2
          go_roundw
          case rel => exact ⟨i + 1, m2, k + 1, os ++ [(⟨7, sa, sb, bl⟩ : Step)], cells ++ stC (⟨7, sa, sb, bl⟩ : Step) (.slice A' bl.length c'), by omega, by omega, by omega, by simp [HKL.out], rfl, by omega, by go_num, HM2, HS2, HK2, HO2, HB2⟩
          case measure => simp [intOf]; omega
      by_cases o6 : op = 6
      · subst o6
        obtain ⟨r, hr1, hr2⟩ := and_31 sa
        obtain ⟨t1, t2⟩ := tmod36 sb
        obtain ⟨q, hq⟩ : ∃ q, Int.tmod sb 36 = q := ⟨_, rfl⟩
        rw [hq] at t1 t2
        have HZ := Lib.hid (bal (brf wr) (.cells #[.int .i64 6, .int .i64 (r : Int), .int .i64 q, .slice A' bl.length c'] 32))
        have HOK : Hid (OkS m ⟨6, (r : Int), q, bl⟩) := Lib.hid ⟨by dsimp only; omega, fun h => by simp at h, fun h => by simp at h, fun h => ⟨by dsimp only; omega, by dsimp only; omega⟩, fun h => by simp at h, hfs⟩
        by_cases hq0 : 0 ≤ q
        · by_cases hq32 : q ≤ 32
          · obtain ⟨m2, hm2⟩ : ∃ m2, m2 = m + q.toNat := ⟨_, rfl⟩
            have hm3 : (m : Int) + q = (m2 : Int) := by omega
            have hmb : m2 ≤ m + 70 := by omega
            have HMS : Hid (m2 = sizeS m ⟨6, (r : Int), q, bl⟩) := Lib.hid (by rw [hm2]; unfold sizeS; dsimp only; rw [if_neg (by omega), if_pos rfl, if_pos ⟨hq0, hq32⟩])
            clear hm2
            go_wp2_with (with_reducible refine stop_at (o := ⟨some 104, _, _, _, _, _⟩) ?_)
            refine Lib.hid ?_
            refine list_app4 rfl _ _ _ rfl w.heap.size 32 i0 _ 48 Try.underlying23 hi0 hz0 hz1 hz2 rfl _ k cells rfl (own_up HO.out (HZ.out.alloc HZ.out.size _)) _ _ (stC (⟨6, (r : Int), q, bl⟩ : Step) (.slice A' bl.length c')) rfl rfl (stC_cell (by simp) (⟨6, (r : Int), q, bl⟩ : Step) (.slice A' bl.length c') _) (stC_one _ _ _ _) (by unfold maxLen; omega) (mulk k (by omega)) (by have h1 := HB.out.size; have h2 := HZ.out.size; (try simp at h2); simp; omega) ?_
            intro v1 w2 ho1 hg1
            have HB2 : Hid (Below w.heap.size w w2) := Lib.hid (below_grown ((HB.out.trans (HZ.out.mono HB.out.size)).alloc (Nat.le_trans HB.out.size HZ.out.size) _) hg1 (own_up HO.out (HZ.out.alloc HZ.out.size _)) (by have h1 := HB.out.size; have h2 := HZ.out.size; (try simp at h2); simp; omega))
            have HO2 := Lib.hid ho1
            have HS2 := Lib.hid (HS.out.app (s := (⟨6, (r : Int), q, bl⟩ : Step)) HURd.out)
            have HK2 := Lib.hid (HK.out.app (s := (⟨6, (r : Int), q, bl⟩ : Step)) (by rw [← HM.out]; exact HOK.out))
            have HM2 : Hid (m2 = sizeK n (os ++ [(⟨6, (r : Int), q, bl⟩ : Step)]) (os ++ [(⟨6, (r : Int), q, bl⟩ : Step)]).length) := Lib.hid (by rw [sizeK_last, ← HM.out]; exact HMS.out)
            clear ho1 hg1 HB HO HS HK HM HZ HOK HMS
            go_wp2
            go_roundw
            case rel => exact ⟨i + 1, m2, k + 1, os ++ [(⟨6, (r : Int), q, bl⟩ : Step)], cells ++ stC (⟨6, (r : Int), q, bl⟩ : Step) (.slice A' bl.length c'), by omega, by omega, by omega, by simp [HKL.out], rfl, by omega, by go_num, HM2, HS2, HK2, HO2, HB2⟩
            case measure => simp [intOf]; omega
          · have HMS : Hid (m = sizeS m ⟨6, (r : Int), q, bl⟩) := Lib.hid (by unfold sizeS; dsimp only; rw [if_neg (by omega), if_pos rfl, if_neg (by omega)])
            go_wp2_with (with_reducible refine stop_at (o := ⟨some 104, _, _, _, _, _⟩) ?_)
            refine Lib.hid ?_
            refine list_app4 rfl _ _ _ rfl w.heap.size 32 i0 _ 48 Try.underlying23 hi0 hz0 hz1 hz2 rfl _ k cells rfl (own_up HO.out (HZ.out.alloc HZ.out.size _)) _ _ (stC (⟨6, (r : Int), q, bl⟩ : Step) (.slice A' bl.length c')) rfl rfl (stC_cell (by simp) (⟨6, (r : Int), q, bl⟩ : Step) (.slice A' bl.length c') _) (stC_one _ _ _ _) (by unfold maxLen; omega) (mulk k (by omega)) (by have h1 := HB.out.size; have h2 := HZ.out.size; (try simp at h2); simp; omega) ?_
            intro v1 w2 ho1 hg1
            have HB2 : Hid (Below w.heap.size w w2) := Lib.hid (below_grown ((HB.out.trans (HZ.out.mono HB.out.size)).alloc (Nat.le_trans HB.out.size HZ.out.size) _) hg1 (own_up HO.out (HZ.out.alloc HZ.out.size _)) (by have h1 := HB.out.size; have h2 := HZ.out.size; (try simp at h2); simp; omega))
            have HO2 := Lib.hid ho1
            have HS2 := Lib.hid (HS.out.app (s := (⟨6, (r : Int), q, bl⟩ : Step)) HURd.out)
            have HK2 := Lib.hid (HK.out.app (s := (⟨6, (r : Int), q, bl⟩ : Step)) (by rw [← HM.out]; exact HOK.out))
            have HM2 : Hid (m = sizeK n (os ++ [(⟨6, (r : Int), q, bl⟩ : Step)]) (os ++ [(⟨6, (r : Int), q, bl⟩ : Step)]).length) := Lib.hid (by rw [sizeK_last, ← HM.out]; exact HMS.out)
            clear ho1 hg1 HB HO HS HK HM HZ HOK HMS
            go_wp2
            go_roundw
            case rel => exact ⟨i + 1, m, k + 1, os ++ [(⟨6, (r : Int), q, bl⟩ : Step)], cells ++ stC (⟨6, (r : Int), q, bl⟩ : Step) (.slice A' bl.length c'), by omega, by omega, by omega, by simp [HKL.out], rfl, by omega, by go_num, HM2, HS2, HK2, HO2, HB2⟩
            case measure => simp [intOf]; omega
        · have HMS : Hid (m = sizeS m ⟨6, (r : Int), q, bl⟩) := Lib.hid (by unfold sizeS; dsimp only; rw [if_neg (by omega), if_pos rfl, if_neg (by omega)])
          go_wp2_with (with_reducible refine stop_at (o := ⟨some 104, _, _, _, _, _⟩) ?_)
          refine Lib.hid ?_
          refine list_app4 rfl _ _ _ rfl w.heap.size 32 i0 _ 48 Try.underlying23 hi0 hz0 hz1 hz2 rfl _ k cells rfl (own_up HO.out (HZ.out.alloc HZ.out.size _)) _ _ (stC (⟨6, (r : Int), q, bl⟩ : Step) (.slice A' bl.length c')) rfl rfl (stC_cell (by simp) (⟨6, (r : Int), q, bl⟩ : Step) (.slice A' bl.length c') _) (stC_one _ _ _ _) (by unfold maxLen; omega) (mulk k (by omega)) (by have h1 := HB.out.size; have h2 := HZ.out.size; (try simp at h2); simp; omega) ?_
          intro v1 w2 ho1 hg1
          have HB2 : Hid (Below w.heap.size w w2) := Lib.hid (below_grown ((HB.out.trans (HZ.out.mono HB.out.size)).alloc (Nat.le_trans HB.out.size HZ.out.size) _) hg1 (own_up HO.out (HZ.out.alloc HZ.out.size _)) (by have h1 := HB.out.size; have h2 := HZ.out.size; (try simp at h2); simp; omega))
          have HO2 := Lib.hid ho1
          have HS2 := Lib.hid (HS.out.app (s := (⟨6, (r : Int), q, bl⟩ : Step)) HURd.out)
          have HK2 := Lib.hid (HK.out.app (s := (⟨6, (r : Int), q, bl⟩ : Step)) (by rw [← HM.out]; exact HOK.out))
          have HM2 : Hid (m = sizeK n (os ++ [(⟨6, (r : Int), q, bl⟩ : Step)]) (os ++ [(⟨6, (r : Int), q, bl⟩ : Step)]).length) := Lib.hid (by rw [sizeK_last, ← HM.out]; exact HMS.out)
          clear ho1 hg1 HB HO HS HK HM HZ HOK HMS
          go_wp2
          go_roundw
          case rel => exact ⟨i + 1, m, k + 1, os ++ [(⟨6, (r : Int), q, bl⟩ : Step)], cells ++ stC (⟨6, (r : Int), q, bl⟩ : Step) (.slice A' bl.length c'), by omega, by omega, by omega, by simp [HKL.out], rfl, by omega, by go_num, HM2, HS2, HK2, HO2, HB2⟩
          case measure => simp [intOf]; omega
      by_cases o3 : op = 3
      · subst o3
        obtain ⟨m3, hm3⟩ : ∃ m3 : Int, (m : Int) + 3 = m3 := ⟨_, rfl⟩
        have hm4 : 0 < m3 ∧ m3 < 10000 := by omega
        have w1 : IntKind.i64.wrap m3 = m3 := by rw [IntKind.wrap_i64]; omega
        obtain ⟨q1, hq1⟩ : ∃ q, Int.tmod sa m3 = q := ⟨_, rfl⟩
        obtain ⟨q2, hq2⟩ : ∃ q, Int.tmod sb m3 = q := ⟨_, rfl⟩
        have b1 := tmod_lt sa m3 hm4.1
        have b2 := tmod_lt sb m3 hm4.1
        rw [hq1] at b1
        rw [hq2] at b2
        have w2 : IntKind.i64.wrap q1 = q1 := by rw [IntKind.wrap_i64]; omega
        have w3 : IntKind.i64.wrap q2 = q2 := by rw [IntKind.wrap_i64]; omega
        have hn0 : ¬ m3 = 0 := by omega
        have HOK : Hid (OkS m ⟨3, q1, q2, bl⟩) := Lib.hid ⟨by dsimp only; omega, fun h => by simp at h, fun h => by simp at h, fun h => by simp at h, fun h => by simp at h, hfs⟩
        have HMS : Hid (m = sizeS m ⟨3, q1, q2, bl⟩) := Lib.hid rfl
        go_wp2_with fail
        go_region
        have HZ := Lib.hid (bdr (bal (brf wr) (.cells #[.int .i64 3, .int .i64 q1, .int .i64 q2, .slice A' bl.length c'] 32)))
        clear hq1 hq2 w1 w2 w3 hm3 hm4 hn0 b1 b2
        go_wp2_with (with_reducible refine stop_at (o := ⟨some 104, _, _, _, _, _⟩) ?_)
        refine Lib.hid ?_
        refine list_app4 rfl _ _ _ rfl w.heap.size 32 i0 _ 48 Try.underlying23 hi0 hz0 hz1 hz2 rfl _ k cells rfl (own_up HO.out (HZ.out.alloc HZ.out.size _)) _ _ (stC (⟨3, q1, q2, bl⟩ : Step) (.slice A' bl.length c')) rfl rfl (stC_cell (by simp) (⟨3, q1, q2, bl⟩ : Step) (.slice A' bl.length c') _) (stC_one _ _ _ _) (by unfold maxLen; omega) (mulk k (by omega)) (by have h1 := HB.out.size; have h2 := HZ.out.size; (try simp at h2); simp; omega) ?_
        intro v1 w2 ho1 hg1
        have HB2 : Hid (Below w.heap.size w w2) := Lib.hid (below_grown ((HB.out.trans (HZ.out.mono HB.out.size)).alloc (Nat.le_trans HB.out.size HZ.out.size) _) hg1 (own_up HO.out (HZ.out.alloc HZ.out.size _)) (by have h1 := HB.out.size; have h2 := HZ.out.size; (try simp at h2); simp; omega))
        have HO2 := Lib.hid ho1
        have HS2 := Lib.hid (HS.out.app (s := (⟨3, q1, q2, bl⟩ : Step)) HURd.out)
        have HK2 := Lib.hid (HK.out.app (s := (⟨3, q1, q2, bl⟩ : Step)) (by rw [← HM.out]; exact HOK.out))
        have HM2 : Hid (m = sizeK n (os ++ [(⟨3, q1, q2, bl⟩ : Step)]) (os ++ [(⟨3, q1, q2, bl⟩ : Step)]).length) := Lib.hid (by rw [sizeK_last, ← HM.out]; exact HMS.out)
        clear ho1 hg1 HB HO HS HK HM HZ HOK HMS
        go_wp2
        go_roundw
        case rel => exact ⟨i + 1, m, k + 1, os ++ [(⟨3, q1, q2, bl⟩ : Step)], cells ++ stC (⟨3, q1, q2, bl⟩ : Step) (.slice A' bl.length c'), by omega, by omega, by omega, by simp [HKL.out], rfl, by omega, by go_num, HM2, HS2, HK2, HO2, HB2⟩
        case measure => simp [intOf]; omega
      · have HB2 : Hid (Below w.heap.size w (wr.alloc (.cells #[.int .i64 op, .int .i64 sa, .int .i64 sb, .slice A' bl.length c'] 32))) := Lib.hid (HB.out.alloc HB.out.size _)
        have HO2 := Lib.hid (HO.out.alloc (.cells #[.int .i64 op, .int .i64 sa, .int .i64 sb, .slice A' bl.length c'] 32))
        go_wp2_with fail
        go_roundw
        case rel => exact ⟨i + 1, m, k, os, cells, by omega, by omega, by omega, HKL.out, rfl, by omega, by go_num, HM, HS, HK, HO2, HB2⟩
        case measure => simp [intOf]; omega
    · have HR := Lib.hid (HS.out.rd HB.out hkl HO.out HB.out.size)
      have hk30 : k ≤ 30 := by omega
      have HK2 : Hid (os.length ≤ 30) := Lib.hid (by omega)
      clear HS HO HM hkl
      by_cases hlt : i < st.length
      · have h30 : ¬ (i : Int) < 30 := by omega
        go_wp2_with fail
        go_ret
        exact ⟨_, os, rfl, HR.out, HK.out, HK2.out, HB.out⟩
      · go_wp2_with fail
        go_ret
        exact ⟨_, os, rfl, HR.out, HK.out, HK2.out, HB.out⟩
end Go.Proofs.Ytjhfebhefclenaa
