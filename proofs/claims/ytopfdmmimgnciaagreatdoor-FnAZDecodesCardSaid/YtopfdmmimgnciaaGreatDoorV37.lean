/-
  WALKS: RSHurt: words of which some are others.
-/
import Derived.Test.YtopfdmmimgnciaaGreatDoorV23
import Derived.Test.YtopfdmmimgnciaaGreatDoorV13
import Derived.Laws.OwnMore
import Derived.Deep.LoopGhost
import Derived.Deep.DeepCutAuto
import Derived.Deep.CutBlock
namespace Go.Proofs.YtopfdmmimgnciaaGreatDoor
open Go.RowKit

namespace Gf
def nzc : List Nat → Nat
  | [] => 0
  | y :: r => (if y = 0 then 0 else 1) + nzc r
theorem esOf_nzc (F : Fd) : ∀ (e : List Nat), (esOf F e).length = nzc e
  | [] => rfl
  | y :: r => by
    have ih := esOf_nzc F r
    by_cases h0 : y = 0
    · rw [esOf, if_pos h0, nzc, if_pos h0, ih, Nat.zero_add]
    · rw [esOf, if_neg h0, nzc, if_neg h0, List.length_cons, ih, Nat.add_comm]
theorem nzc_set : ∀ (e : List Nat) (k y : Nat), nzc (e.set k y) ≤ nzc e + 1
  | [], _, _ => Nat.zero_le _
  | x :: r, 0, y => by
    show (if y = 0 then 0 else 1) + nzc r ≤ (if x = 0 then 0 else 1) + nzc r + 1
    split <;> split <;> omega
  | x :: r, k + 1, y => by
    have ih := nzc_set r k y
    show (if x = 0 then 0 else 1) + nzc (r.set k y) ≤ (if x = 0 then 0 else 1) + nzc r + 1
    omega
theorem nzc_zero : ∀ n, nzc (List.replicate n 0) = 0
  | 0 => rfl
  | n + 1 => by rw [List.replicate_succ, nzc, if_pos rfl, nzc_zero n]
theorem getD_set (l : List Nat) (k j y : Nat) (hk : k < l.length) : (l.set k y).getD j 0 = if k = j then y else l.getD j 0 := by
  by_cases h : k = j
  · subst h
    rw [if_pos rfl, List.getD, List.getElem?_set_self hk]; rfl
  · rw [if_neg h, List.getD, List.getElem?_set_ne h]; rfl
theorem xo_set (l er : List Nat) (k y : Nat) (hl : l.length = er.length) (hk : k < er.length) (h0 : er.getD k 0 = 0) : (xo l er).set k ((xo l er).getD k 0 ^^^ y) = xo l (er.set k y) := by
  have hxl := xo_len l er
  have hxl2 := xo_len l (er.set k y)
  refine List.ext_getElem (by rw [List.length_set, hxl, hxl2]) fun j j1 j2 => ?_
  rw [← getD_lt _ _ 0 j1, ← getD_lt _ _ 0 j2, getD_set _ _ _ _ (by omega), xo_at _ _ j (by omega), xo_at _ _ j (by omega), getD_set _ _ _ _ hk, xo_at _ _ k (by omega)]
  by_cases h : k = j
  · subst h
    rw [if_pos rfl, if_pos rfl, h0, Nat.xor_zero]
  · rw [if_neg h, if_neg h]
end Gf
def uvs (xs : List Nat) : List Value := xs.map fun n : Nat => Value.int .u16 (n : Int)
def bvs (xs : List Bool) : List Value := xs.map Value.bool
theorem uvs_len (xs : List Nat) : (uvs xs).length = xs.length := by simp [uvs]
theorem uvs_at (xs : List Nat) (i : Nat) (h : i < xs.length) : (uvs xs)[i]? = some (.int .u16 ((xs[i] : Nat) : Int)) := by simp [uvs, h]
theorem bvs_rep (n : Nat) : rep n (.bool false) = (bvs (List.replicate n false)).toArray := by simp [rep, bvs]
theorem bvs_cell (l : List Bool) (k : Nat) (h : k < l.length) : (bvs l).toArray[k]? = some (.bool l[k]) := by simp [bvs, h]
theorem bvs_set (l : List Bool) (k : Nat) (b : Bool) : (bvs l).toArray.setIfInBounds k (.bool b) = (bvs (l.set k b)).toArray := by simp [bvs]
theorem nv_setl (l : List Nat) (k v : Nat) : (nv l).set k (.int .i64 (v : Int)) = nv (l.set k v) := by simp [nv, List.map_set]
theorem tmod_nat (a n : Nat) : Int.tmod (a : Int) (n : Int) = ((a % n : Nat) : Int) := by
  rw [Int.tmod_eq_emod_of_nonneg (by omega)]; simp
/-- What the rows are behind some rounds. -/
structure Hurt (F : Gf.Fd) (l er : List Nat) (hit : List Bool) (m most : Nat) : Prop where
  le : er.length = l.length
  lh : hit.length = l.length
  lt : ∀ x ∈ er, x < F.s
  nz : Gf.nzc er + m ≤ most
  z : ∀ k, hit.getD k false = false → er.getD k 0 = 0
theorem Hurt.next {F : Gf.Fd} {l er : List Nat} {hit : List Bool} {m most k y : Nat} (h : Hurt F l er hit (m + 1) most) (hk : k < l.length) (hy : y < F.s) : Hurt F l (er.set k y) (hit.set k true) m most := by
  refine ⟨by rw [List.length_set]; exact h.le, by rw [List.length_set]; exact h.lh, fun x hm => ?_, ?_, fun j hj => ?_⟩
  · rcases List.mem_or_eq_of_mem_set hm with h9 | h9
    · exact h.lt x h9
    · rw [h9]; exact hy
  · have h1 := Gf.nzc_set er k y
    have h2 := h.nz
    omega
  · by_cases hkj : k = j
    · subst hkj
      rw [List.getD, List.getElem?_set_self (by rw [h.lh]; exact hk)] at hj
      cases hj
    · rw [Gf.getD_set _ _ _ _ (by rw [h.le]; exact hk), if_neg hkj]
      refine h.z j ?_
      rw [List.getD, List.getElem?_set_ne hkj] at hj
      exact hj
theorem own_lt' {w : World} {base n r cap : Nat} {e : TypeId} {xs : List Value} (h : w.ownsRow base e 1 (.slice (some ⟨r, 0, none⟩) n cap) n xs) : r < w.heap.size := by
  rcases h.2 with ⟨h', _⟩ | ⟨g', cap', cur, h', hb, hg, _⟩
  · simp at h'
  · simp only [Value.slice.injEq, Option.some.injEq, Addr.mk.injEq, and_true, true_and] at h'
    obtain ⟨rfl, rfl⟩ := h'
    exact Blk.lt (w := w) (t := e) (cs := cur) hg
theorem own_offc {w : World} {base n r cap : Nat} {e : TypeId} {xs : List Value} (h : w.ownsRow base e 1 (.slice (some ⟨r, 0, none⟩) n cap) n xs) {b : Nat} (hr : r ≠ b) (k : Nat) (u : Value) : (w.setCell ⟨b, k, none⟩ u).ownsRow base e 1 (.slice (some ⟨r, 0, none⟩) n cap) n xs := by
  obtain ⟨h1, h2 | ⟨r', cap, cur, hv, hb', hg, rest⟩⟩ := h
  · exact ⟨h1, .inl h2⟩
  · simp only [Value.slice.injEq, Option.some.injEq, Addr.mk.injEq, and_true, true_and] at hv
    obtain ⟨rfl, rfl⟩ := hv
    exact ⟨h1, .inr ⟨r, _, cur, rfl, hb', (Below.heap_setCell w ⟨b, k, none⟩ u r hr).trans hg, rest⟩⟩
theorem cell_put_ne {w : World} {p q : Addr} {u v : Value} (h : w.cell? q = some v) (hne : q.block ≠ p.block) : (w.setCell p u).cell? q = some v :=
  (World.cell?_of_block (Below.heap_setCell w p u q.block hne)).trans h
theorem rep_getD (n k : Nat) : (List.replicate n 0).getD k 0 = 0 := by
  rw [List.getD, List.getElem?_replicate]
  split <;> rfl
theorem infoB : (Tryz.prog.info? 4).map (fun i => (i.zero, i.size, i.bytes)) = some (some (.bool false), 1, 1) := by kernel_rfl
set_option maxRecDepth 100000 in
set_option maxHeartbeats 8000000 in
theorem hurt_any (F : Gf.Fd) (h12 : F.m ≤ 12) (hs16 : 16 ≤ F.s) (vl va vb : Value) (l at_ by_ : List Nat) (most : Nat) (w : World) (hl : Rd w w.heap.size vl (nv l)) (ha : Rd w w.heap.size va (uvs at_)) (hb : Rd w w.heap.size vb (uvs by_))
    (hx : ∀ x ∈ l, x < F.s) (ha6 : ∀ x ∈ at_, x < 65536) (hb6 : ∀ x ∈ by_, x < 65536) (hl0 : 0 < l.length) (hl4 : l.length ≤ 4096) (hm : most ≤ 4096) :
    Calls Tryz.prog 7 #[.agg #[.int .i64 F.p, .int .i64 F.s, .int .i64 F.b], vl, va, vb, .int .i64 most] w fun e w' => ∃ v er, e = .returned v ∧ er.length = l.length ∧ (∀ x ∈ er, x < F.s) ∧ (Gf.esOf F er).length ≤ most ∧ RdT w' 3 v (nv (Gf.xo l er)) ∧ Below w.heap.size w w' := by
  have hs12 := s_le F h12
  obtain ⟨i0, hi0, hz0, hz1, hz2⟩ := info_parts info_int
  obtain ⟨A1, c1, rfl, a1, a2, a3⟩ := ha
  obtain ⟨A2, c2, rfl, b1, b2, b3⟩ := hb
  obtain ⟨AL, cL, rfl, l1, l2, l3⟩ := id hl
  simp only [nv_len, uvs_len] at *
  unfold maxLen at a2 b2 l2
  have hmk := fun W => run_mk (P := Tryz.prog) 42 4 (.bool false) 1 Tryz.underlying42 infoB rfl l.length (by omega) (by omega) W
  have HA3 := Lib.hid (And.intro a3 b3); clear a3 b3 l3
  have HL := Lib.hid (hl.up (bal (brf w) (.cells #[.int .i64 F.p, .int .i64 F.s, .int .i64 F.b] 30))); clear hl
  have HX := Lib.hid (And.intro hx (And.intro ha6 hb6)); clear hx ha6 hb6
  have HF0 := Lib.hid (Blk.fresh w 30 #[.int .i64 F.p, .int .i64 F.s, .int .i64 F.b])
  obtain ⟨wb, hwb⟩ : ∃ wb, wb = w.alloc (.cells #[.int .i64 F.p, .int .i64 F.s, .int .i64 F.b] 30) := ⟨_, rfl⟩
  rw [← hwb] at HF0 HL
  have HB0 : Hid (Below w.heap.size w wb) := Lib.hid (by rw [hwb]; exact bal (brf w) _)
  have hsz : wb.heap.size = w.heap.size + 1 := by rw [hwb]; simp
  have HWB := Lib.hid hwb.symm; clear hwb
  have HSZ := Lib.hid hsz; clear hsz
  go_enter Tryz.func7, Tryz.ntmps7
  go_upto_region 1 with fail
  rw [HWB.out]
  go_wp2_with (at_builtin; refine list_app_rd _ rfl _ _ 25 rfl wb.heap.size 3 i0 _ 8 Tryz.underlying25 hi0 hz0 hz1 hz2 rfl _ 0 [] rfl (own_empty (Blk.fresh _ _ _) (Nat.le_refl _)) _ _ (nv l) rfl (HL.out.up (bal (brf wb) _)) (nv_one _) (by rw [nv_len]; unfold maxLen; omega) (by rw [nv_len]; omega) (by simp) ?_; intro v4 w4 ho4 hg4)
  have ho4' : w4.ownsRow wb.heap.size 3 1 v4 l.length (nv l) := by simpa [nv] using ho4
  have HB4 := Lib.hid (below_grown (bal (brf wb) (.cells #[] 3)) hg4 (own_empty (Blk.fresh _ _ _) (Nat.le_refl _)) (by simp))
  clear ho4 hg4
  obtain ⟨r, cap, rfl, hrb⟩ : ∃ r cap, v4 = .slice (some ⟨r, 0, none⟩) l.length cap ∧ wb.heap.size ≤ r := by
    rcases ho4'.2 with ⟨h1, h2⟩ | ⟨g, cap, cur, h1, h2, _⟩
    · have h3 := ho4'.1
      simp at h3
      omega
    · exact ⟨g, cap, h1, h2⟩
  have HO4 := Lib.hid ho4'; clear ho4'
  go_wp2_with fail
  clear hmk
  have hr4 := own_lt' HO4.out
  have HS4 := Lib.hid (below_up HB0.out HB4.out HB0.out.size)
  have hsz4 := HB4.out.size
  have hszw : w.heap.size < wb.heap.size := by rw [HSZ.out]; omega
  rw [bvs_rep]
  have HH0 := Lib.hid (Blk.fresh w4 4 (bvs (List.replicate l.length false)).toArray)
  have HF4 := Lib.hid ((HF0.out.up HB4.out).alloc (.cells (bvs (List.replicate l.length false)).toArray 4))
  have HO5 := Lib.hid (HO4.out.alloc (.cells (bvs (List.replicate l.length false)).toArray 4))
  have HB5 := Lib.hid (bal HS4.out (.cells (bvs (List.replicate l.length false)).toArray 4))
  go_loopw [4, 13] (fun v4 v13 wr => ∃ (i m : Nat) (er : List Nat) (hit : List Bool), i ≤ at_.length ∧ m ≤ most ∧ v4 = .int .i64 m ∧ v13 = .int .i64 i ∧ Hid (Hurt F l er hit m most) ∧ Hid (wr.ownsRow wb.heap.size 3 1 (.slice (some ⟨r, 0, none⟩) l.length cap) l.length (nv (Gf.xo l er))) ∧
      Hid (Blk wr w4.heap.size 4 (bvs hit).toArray) ∧ Hid (Blk wr w.heap.size 30 #[.int .i64 F.p, .int .i64 F.s, .int .i64 F.b]) ∧ Hid (Below w.heap.size w wr)) (fun _ v13 _ => at_.length - (intOf v13).toNat)
  case atStart => exact ⟨0, most, List.replicate l.length 0, List.replicate l.length false, Nat.zero_le _, Nat.le_refl _, rfl, rfl, Lib.hid ⟨by simp, by simp, Gf.rep_lt _, by rw [Gf.nzc_zero]; omega, fun k _ => rep_getD _ k⟩, Lib.hid (by rw [Gf.xo_zero]; exact HO5.out), HH0, HF4, HB5⟩
  case round =>
    clear HH0 HF4 HO5 HB5 HO4 HS4 HB4 HF0
    obtain ⟨i, m, er, hit, hi, hmm, rfl, rfl, HU, HO, HH, HFd, HW⟩ := hrel
    by_cases hlt : i < at_.length
    · by_cases hm0 : 0 < m
      · obtain ⟨m', rfl⟩ : ∃ m', m = m' + 1 := ⟨m - 1, by omega⟩
        obtain ⟨ba, oa, rfl, hba, hca⟩ := HA3.out.1 (by omega)
        have cA : wr.cell? ⟨ba, oa + i, none⟩ = some (.int .u16 ((at_[i] : Nat) : Int)) := cell_up (hca i _ (uvs_at at_ i hlt)) HW.out
        have ha65 := HX.out.2.1 _ (List.getElem_mem hlt)
        clear hca
        generalize at_[i] = a at *
        have tm := tmod_nat a l.length
        have hkl := Nat.mod_lt a hl0
        generalize a % l.length = k at *
        have hkh : k < hit.length := by rw [HU.out.lh]; exact hkl
        have cH : wr.cell? ⟨w4.heap.size, k, none⟩ = some (.bool hit[k]) := by rw [HH.out.cell, bvs_cell hit k hkh]
        have fH : wr.frozen? ⟨w4.heap.size, k, none⟩ = false := HH.out.frozen _
        have hdk : hit.getD k false = hit[k] := by simp [List.getD, hkh]
        cases hb0 : hit[k]
        · rw [hb0] at cH hdk
          have he0 := HU.out.z k hdk
          have hxl := Gf.xo_len l er
          have hold : (Gf.xo l er).getD k 0 = (Gf.xo l er)[k]'(by omega) := getD_lt _ _ _ _
          have holdl := Gf.xo_lt l er HX.out.1 HU.out.lt _ (List.getElem_mem (show k < (Gf.xo l er).length by omega))
          have cO0 : wr.cell? ⟨r, k, none⟩ = some (.int .i64 (((Gf.xo l er).getD k 0 : Nat) : Int)) := by
            rw [HO.out.cellAt k (by omega), hold]
            exact nv_at _ _ _
          rw [← hold] at holdl
          have hxs := fun y => Gf.xo_set l er k y HU.out.le.symm (by rw [HU.out.le]; exact hkl) he0
          generalize (Gf.xo l er).getD k 0 = old at *
          have HXS := Lib.hid hxs
          have HNX := Lib.hid (fun y hy => HU.out.next (k := k) (y := y) hkl hy)
          have cO : (wr.setCell ⟨w4.heap.size, k, none⟩ (.bool true)).cell? ⟨r, k, none⟩ = some (.int .i64 ((old : Nat) : Int)) := cell_put_ne cO0 (show r ≠ w4.heap.size by omega)
          clear hxs hold hdk hb0 he0 cO0 hkh
          have HO2 := own_offc HO.out (show r ≠ w4.heap.size by omega) k (.bool true)
          have hHset := HH.out.put k (.bool true)
          rw [bvs_set] at hHset
          have hFset := HFd.out.far (p := ⟨w4.heap.size, k, none⟩) (show w.heap.size ≠ w4.heap.size by omega) (.bool true)
          have hWset := HW.out.setCell (p := ⟨w4.heap.size, k, none⟩) (show w.heap.size ≤ w4.heap.size by omega) (.bool true)
          have HO2 := Lib.hid HO2
          have HH2 := Lib.hid hHset
          have HF2 := Lib.hid hFset
          have HW2 := Lib.hid hWset
          clear hHset hFset hWset
          go_upto_region 9 with fail
          generalize wr.setCell ⟨w4.heap.size, k, none⟩ (.bool true) = w2 at *
          have fO : w2.frozen? ⟨r, k, none⟩ = false := HO2.out.frozenAt k
          have cS : w2.cell? ⟨w.heap.size, 1, none⟩ = some (.int .i64 F.s) := HF2.out.three.2.1
          clear cH fH cA
          by_cases hib : i < by_.length
          · obtain ⟨bb, ob, rfl, hbb, hcb⟩ := HA3.out.2 (by omega)
            have cB : w2.cell? ⟨bb, ob + i, none⟩ = some (.int .u16 ((by_[i] : Nat) : Int)) := cell_up (hcb i _ (uvs_at by_ i hib)) HW2.out
            have hb65 := HX.out.2.2 _ (List.getElem_mem hib)
            clear hcb
            generalize by_[i] = nn at *
            have tq := tmod_nat nn (F.s - 1)
            have hsub : ((F.s - 1 : Nat) : Int) = (F.s : Int) - 1 := by omega
            rw [hsub] at tq
            have hq := Nat.mod_lt nn (show 0 < F.s - 1 by omega)
            generalize nn % (F.s - 1) = q at *
            have hx1 := i64_xor old (1 + q) (by omega) (by omega)
            have hx2 : ((1 + q : Nat) : Int) = 1 + (q : Int) := by omega
            rw [hx2] at hx1
            have hxs1 := HXS.out (1 + q)
            have hnx1 := HNX.out (1 + q) (by omega)
            generalize old ^^^ (1 + q) = z at *
            have HXS1 := Lib.hid hxs1
            have HNX1 := Lib.hid hnx1
            have hwr : IntKind.i64.wrap ((F.s : Int) - 1) = (F.s : Int) - 1 := by rw [IntKind.wrap_i64]; omega
            have hwn : ¬ ((F.s : Int) - 1 = 0) := by omega
            have hw1 : IntKind.i64.wrap (1 + (q : Int)) = 1 + (q : Int) := by rw [IntKind.wrap_i64]; omega
            clear hxs1 hnx1 hsub hx2
            go_wp2_with fail
            refine Can.wp_region_can (fun w' => w'.cell? ⟨r, k, none⟩ = some (.int .i64 ((old : Nat) : Int)) ∧ w'.frozen? ⟨r, k, none⟩ = false ∧ w'.cell? ⟨w.heap.size, 1, none⟩ = some (.int .i64 F.s)) 14 [0, 1, 2, 3, 4, 5, 6, 7, 8, 9, 10, 11, 12, 13, 14] (by kernel_rfl) (by kernel_rfl) (fun _ _ d _ _ h => by cases d <;> exact h) ⟨cO, fO, cS⟩ (fun hHeld => ?_)
            repeat (refine Can.can_pure (v := ?_) rfl rfl (Or.inl ⟨by rfl, ?_⟩) ?_; rotate_left; (focus ((intro w hSw); (try dsimp only at hSw); go_simp; (try with_reducible rfl))); (try simp only [Act.put, List.getElem_toArray, List.getElem_cons_succ, List.getElem_cons_zero, List.setIfInBounds_toArray, List.set_cons_zero, List.set_cons_succ]))
            have HC := Lib.hid hHeld
            have HO3 : Hid (w2.drew.ownsRow wb.heap.size 3 1 (.slice (some ⟨r, 0, none⟩) l.length cap) l.length (nv (Gf.xo l er))) := Lib.hid HO2.out
            have HH3 : Hid (Blk w2.drew w4.heap.size 4 (bvs (hit.set k true)).toArray) := Lib.hid HH2.out
            have HF3 : Hid (Blk w2.drew w.heap.size 30 #[.int .i64 F.p, .int .i64 F.s, .int .i64 F.b]) := Lib.hid HF2.out
            have HW3 : Hid (Below w.heap.size w w2.drew) := Lib.hid (below_drewN HW2.out 1)
            clear hHeld cO fO cS HO2 HH2 HF2 HW2
            generalize w2.drew = wd at *
            have cO := HC.out.1
            have fO := HC.out.2.1
            refine Can.can_tail rfl rfl (by rfl) (fun K hK => ?_)
            go_simp
            refine hK.out _ _ ?_
            clear hK K
            have hst := (HO3.out.stored k (.int .i64 ((z : Nat) : Int))).1
            rw [nv_setl, HXS1.out] at hst
            have HO4 := Lib.hid hst
            have HH4 := Lib.hid (HH3.out.far (p := ⟨r, k, none⟩) (show w4.heap.size ≠ r by omega) (.int .i64 ((z : Nat) : Int)))
            have HF4 := Lib.hid (HF3.out.far (p := ⟨r, k, none⟩) (show w.heap.size ≠ r by omega) (.int .i64 ((z : Nat) : Int)))
            have HW4 := Lib.hid (HW3.out.setCell (p := ⟨r, k, none⟩) (show w.heap.size ≤ r by omega) (.int .i64 ((z : Nat) : Int)))
            clear hst cO fO HC HO3 HH3 HF3 HW3
            go_wp2
            go_roundw
            case rel => exact ⟨i + 1, m', er.set k (1 + q), hit.set k true, by omega, by omega, by go_num, by go_num, HNX1, HO4, HH4, HF4, HW4⟩
            case measure => simp [intOf]; omega
          · skip
            have hx1 : bits .xor .i64 (old : Int) 1 = ((old ^^^ 1 : Nat) : Int) := i64_xor old 1 (by omega) (by decide)
            have hxs1 := HXS.out 1
            have hnx1 := HNX.out 1 (by omega)
            generalize old ^^^ 1 = z at *
            have HXS1 := Lib.hid hxs1
            have HNX1 := Lib.hid hnx1
            have hwr : IntKind.i64.wrap ((F.s : Int) - 1) = (F.s : Int) - 1 := by rw [IntKind.wrap_i64]; omega
            have hwn : ¬ ((F.s : Int) - 1 = 0) := by omega
            clear hxs1 hnx1
            go_wp2_with fail
            refine Can.wp_region_can (fun w' => w'.cell? ⟨r, k, none⟩ = some (.int .i64 ((old : Nat) : Int)) ∧ w'.frozen? ⟨r, k, none⟩ = false ∧ w'.cell? ⟨w.heap.size, 1, none⟩ = some (.int .i64 F.s)) 14 [0, 1, 2, 3, 4, 5, 6, 7, 8, 9, 10, 11, 12, 13, 14] (by kernel_rfl) (by kernel_rfl) (fun _ _ d _ _ h => by cases d <;> exact h) ⟨cO, fO, cS⟩ (fun hHeld => ?_)
            repeat (refine Can.can_pure (v := ?_) rfl rfl (Or.inl ⟨by rfl, ?_⟩) ?_; rotate_left; (focus ((intro w hSw); (try dsimp only at hSw); go_simp; (try with_reducible rfl))); (try simp only [Act.put, List.getElem_toArray, List.getElem_cons_succ, List.getElem_cons_zero, List.setIfInBounds_toArray, List.set_cons_zero, List.set_cons_succ]))
            have HC := Lib.hid hHeld
            have HO3 : Hid (w2.drew.ownsRow wb.heap.size 3 1 (.slice (some ⟨r, 0, none⟩) l.length cap) l.length (nv (Gf.xo l er))) := Lib.hid HO2.out
            have HH3 : Hid (Blk w2.drew w4.heap.size 4 (bvs (hit.set k true)).toArray) := Lib.hid HH2.out
            have HF3 : Hid (Blk w2.drew w.heap.size 30 #[.int .i64 F.p, .int .i64 F.s, .int .i64 F.b]) := Lib.hid HF2.out
            have HW3 : Hid (Below w.heap.size w w2.drew) := Lib.hid (below_drewN HW2.out 1)
            clear hHeld cO fO cS HO2 HH2 HF2 HW2
            generalize w2.drew = wd at *
            have cO := HC.out.1
            have fO := HC.out.2.1
            refine Can.can_tail rfl rfl (by rfl) (fun K hK => ?_)
            go_simp
            refine hK.out _ _ ?_
            clear hK K
            have hst := (HO3.out.stored k (.int .i64 ((z : Nat) : Int))).1
            rw [nv_setl, HXS1.out] at hst
            have HO4 := Lib.hid hst
            have HH4 := Lib.hid (HH3.out.far (p := ⟨r, k, none⟩) (show w4.heap.size ≠ r by omega) (.int .i64 ((z : Nat) : Int)))
            have HF4 := Lib.hid (HF3.out.far (p := ⟨r, k, none⟩) (show w.heap.size ≠ r by omega) (.int .i64 ((z : Nat) : Int)))
            have HW4 := Lib.hid (HW3.out.setCell (p := ⟨r, k, none⟩) (show w.heap.size ≤ r by omega) (.int .i64 ((z : Nat) : Int)))
            clear hst cO fO HC HO3 HH3 HF3 HW3
            go_wp2
            go_roundw
            case rel =>
              rw [hx1]
              exact ⟨i + 1, m', er.set k 1, hit.set k true, by omega, by omega, by go_num, by go_num, HNX1, HO4, HH4, HF4, HW4⟩
            case measure => simp [intOf]; omega
        · rw [hb0] at cH
          clear hdk hb0
          go_wp2
          go_roundw
          case rel => exact ⟨i + 1, m' + 1, er, hit, by omega, hmm, rfl, by go_num, HU, HO, HH, HFd, HW⟩
          case measure => simp [intOf]; omega
      · obtain rfl : m = 0 := by omega
        go_wp2
        go_ret
        exact ⟨_, er, rfl, HU.out.le, HU.out.lt, by rw [Gf.esOf_nzc]; have := HU.out.nz; omega, RdT.of_own HO.out, HW.out⟩
    · go_wp2
      go_ret
      exact ⟨_, er, rfl, HU.out.le, HU.out.lt, by rw [Gf.esOf_nzc]; have := HU.out.nz; omega, RdT.of_own HO.out, HW.out⟩
end Go.Proofs.YtopfdmmimgnciaaGreatDoor
