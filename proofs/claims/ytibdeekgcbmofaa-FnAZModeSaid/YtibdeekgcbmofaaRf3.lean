/-
  WALKS: the reference's code; the data of the laws.
-/
import Derived.Test.YtibdeekgcbmofaaRf2
namespace Go.Proofs.Ytibdeekgcbmofaa
open Go.RowKit

theorem rest_ne (F : Gf.Fd) (b : List Nat) : ∀ (fuel : Nat) (r : List Nat), r ≠ [] → Gf.rest F b fuel r ≠ []
  | 0, r, h => h
  | n + 1, r, h => by
    rw [Gf.rest]
    split
    · exact rest_ne F b n _ (Gf.restStep_tidy h).1
    · exact h
set_option maxRecDepth 100000 in
set_option maxHeartbeats 4000000 in
/-- spec.RSEncode. -/
theorem rsEncode_any (F : Gf.Fd) (hF : Gf.Ok F) (h12 : F.m ≤ 12) (hb1 : F.b ≤ 1) (a : Value) (data : List Nat) (n : Nat) (w : World) (ha : Rd w w.heap.size a (nv data))
    (hd : ∀ x ∈ data, x < F.s) (hdn : 0 < data.length) (hd4 : data.length ≤ 4096) (hn : 0 < n) (hn4 : n ≤ 4096) :
    Calls Try.prog 11 #[.agg #[.int .i64 F.p, .int .i64 F.s, .int .i64 F.b], a, .int .i64 n] w fun e w' => ∃ v, e = .returned v ∧ RdT w' 3 v (nv (Gf.enc F n data)) ∧ Below w.heap.size w w' := by
  have hs12 := s_le F h12
  obtain ⟨i0, hi0, hz0, hz1, hz2⟩ := info_parts info_int
  have HA := Lib.hid ha; clear ha
  obtain ⟨g1, g2, g3, _⟩ := Gf.gen_spec hF n
  have hzs := Gf.app_lt hd (Gf.rep_lt (F := F) n)
  have hzl : (data ++ List.replicate n 0).length = data.length + n := by simp
  have hzne : data ++ List.replicate n 0 ≠ [] := by intro h0; rw [h0, List.length_nil] at hzl; omega
  have htl := tidy_len (data ++ List.replicate n 0)
  have hgt : Tidy (Gf.gen F n) := ⟨by rw [g1]; simp, .inr (by rw [g1]; simp)⟩
  have hg0 : (Gf.gen F n).getD 0 0 ≠ 0 := by rw [g1]; simp
  have hgl : (Gf.gen F n).length = n + 1 := by rw [g1, List.length_cons, g2]
  have hrl := Gf.rest_len hF hn hd (data.length + n) (by omega)
  have her := Gf.enc_rest hF hn hd (data.length + n) (by omega)
  have HR := fun v b W h1 h2 => rsRest_any F hF h12 v b (tidy (data ++ List.replicate n 0)) (Gf.gen F n) (data.length + n) W h1 h2 (Gf.tidy_lt hzs) g3 (tidy_tidy _ hzne) hgt hg0 (by omega) (by omega) (by omega)
  have hrne := rest_ne F (Gf.gen F n) (data.length + n) (tidy (data ++ List.replicate n 0)) (tidy_ne _ hzne)
  obtain ⟨R, hR⟩ : ∃ R, R = Gf.rest F (Gf.gen F n) (data.length + n) (tidy (data ++ List.replicate n 0)) := ⟨_, rfl⟩
  rw [← hR] at hrl her HR hrne
  have hrn : 0 < R.length := by
    rcases R with _ | ⟨x, t⟩
    · exact absurd rfl hrne
    · simp
  clear hrne
  have HRc := Lib.hid HR; clear HR hR
  have HER := Lib.hid her; clear her
  clear g1 g2 g3 hzs hzl hzne htl hgt hg0 hgl hd
  have HA1 := Lib.hid (HA.out.up (bal (brf w) (.cells #[.int .i64 F.p, .int .i64 F.s, .int .i64 F.b] 27)))
  obtain ⟨x0, x1, x2⟩ := (Blk.fresh w 27 #[.int .i64 F.p, .int .i64 F.s, .int .i64 F.b]).three
  obtain ⟨wb, hwb⟩ : ∃ wb, wb = w.alloc (.cells #[.int .i64 F.p, .int .i64 F.s, .int .i64 F.b] 27) := ⟨_, rfl⟩
  rw [← hwb] at x0 x1 x2 HA1
  have HB0 : Hid (Below w.heap.size w wb) := Lib.hid (by rw [hwb]; exact bal (brf w) _)
  have HWB := Lib.hid hwb.symm; clear hwb
  go_enter Try.func11, Try.ntmps11
  go_wp2_with fail
  rw [HWB.out]
  refine Can.wp_region_can (fun w' => w'.cell? ⟨w.heap.size, 0, none⟩ = some (.int .i64 F.p) ∧ w'.cell? ⟨w.heap.size, 1, none⟩ = some (.int .i64 F.s) ∧ w'.cell? ⟨w.heap.size, 2, none⟩ = some (.int .i64 F.b) ∧ Below wb.heap.size wb w') 999 [0, 1, 2, 4, 5, 3, 6, 7, 8] (by kernel_rfl) (by kernel_rfl) (fun _ _ d _ _ h => by cases d <;> exact h) ⟨x0, x1, x2, bdr (brf _)⟩ (fun hHeld => ?_)
  repeat (refine Can.can_pure (v := ?_) rfl rfl (Or.inl ⟨by rfl, ?_⟩) ?_; rotate_left; (focus ((intro w hSw); (try dsimp only at hSw); go_simp; (try with_reducible rfl))); (try simp only [Act.put, List.getElem_toArray, List.getElem_cons_succ, List.getElem_cons_zero, List.setIfInBounds_toArray, List.set_cons_zero, List.set_cons_succ]))
  refine Can.can_eff rfl rfl (by rfl) (fun K hK => ?_)
  go_simp
  refine (shifted_any a data n _ (HA1.out.up hHeld.2.2.2) hdn (by omega) (by omega)).mono ?_
  rintro e w1 ⟨v1, rfl, hv1, hb1'⟩
  refine hK.out _ _ ⟨cell_up hHeld.1 hb1', cell_up hHeld.2.1 hb1', cell_up hHeld.2.2.1 hb1', bup hHeld.2.2.2 hb1'⟩ (fun hHeld1 => ?_)
  clear hK K
  (try simp only [Act.put, List.getElem_toArray, List.getElem_cons_succ, List.getElem_cons_zero, List.setIfInBounds_toArray, List.set_cons_zero, List.set_cons_succ])
  repeat (refine Can.can_pure (v := ?_) rfl rfl (Or.inl ⟨by rfl, ?_⟩) ?_; rotate_left; (focus ((intro w hSw); (try dsimp only at hSw); go_simp; (try with_reducible rfl))); (try simp only [Act.put, List.getElem_toArray, List.getElem_cons_succ, List.getElem_cons_zero, List.setIfInBounds_toArray, List.set_cons_zero, List.set_cons_succ]))
  refine Can.can_eff rfl rfl (by rfl) (fun K hK => ?_)
  go_simp
  refine (rsGenerator_any F hF h12 hb1 n _ hn4).mono ?_
  rintro e w2 ⟨v2, rfl, hv2, hb2'⟩
  refine hK.out _ _ ⟨cell_up hHeld1.1 hb2', cell_up hHeld1.2.1 hb2', cell_up hHeld1.2.2.1 hb2', bup hHeld1.2.2.2 hb2'⟩ (fun hHeld2 => ?_)
  clear hK K
  (try simp only [Act.put, List.getElem_toArray, List.getElem_cons_succ, List.getElem_cons_zero, List.setIfInBounds_toArray, List.set_cons_zero, List.set_cons_succ])
  repeat (refine Can.can_pure (v := ?_) rfl rfl (Or.inl ⟨by rfl, ?_⟩) ?_; rotate_left; (focus ((intro w hSw); (try dsimp only at hSw); go_simp; (try with_reducible rfl))); (try simp only [Act.put, List.getElem_toArray, List.getElem_cons_succ, List.getElem_cons_zero, List.setIfInBounds_toArray, List.set_cons_zero, List.set_cons_succ]))
  refine Can.can_eff rfl rfl (by rfl) (fun K hK => ?_)
  go_simp
  refine (HRc.out v1 v2 _ (hv1.up hb2').rd hv2.rd).mono ?_
  rintro e w3 ⟨v3, rfl, hv3, hb3'⟩
  refine hK.out _ _ ⟨cell_up hHeld2.1 hb3', cell_up hHeld2.2.1 hb3', cell_up hHeld2.2.2.1 hb3', bup hHeld2.2.2.2 hb3'⟩ (fun hHeld3 => ?_)
  clear hK K
  (try simp only [Act.put, List.getElem_toArray, List.getElem_cons_succ, List.getElem_cons_zero, List.setIfInBounds_toArray, List.set_cons_zero, List.set_cons_succ])
  repeat (refine Can.can_pure (v := ?_) rfl rfl (Or.inl ⟨by rfl, ?_⟩) ?_; rotate_left; (focus ((intro w hSw); (try dsimp only at hSw); go_simp; (try with_reducible rfl))); (try simp only [Act.put, List.getElem_toArray, List.getElem_cons_succ, List.getElem_cons_zero, List.setIfInBounds_toArray, List.set_cons_zero, List.set_cons_succ]))
  refine Can.can_done ?_
  have HB3 := Lib.hid hHeld3.2.2.2
  clear hHeld hHeld1 hHeld2 hHeld3 hv1 hv2 hb1' hb2' hb3' x0 x1 x2 HRc
  have hv3' := hv3
  obtain ⟨A3, c3, rfl, k1, k2, k3⟩ := hv3.rd
  simp only [nv_len] at *
  unfold maxLen at k2
  obtain ⟨b3, o3, rfl, _, _⟩ := k3 hrn
  have HV3 := Lib.hid hv3'; clear hv3' hv3 k3
  have hge0 : (R.length : Int) - (n : Int) ≤ 0 := by omega
  have hmax : max (0 : Int) ((R.length : Int) - (n : Int)) = 0 := by omega
  go_wp2_with (at_builtin; refine list_app_rd _ rfl _ _ 24 rfl w3.heap.size 3 i0 _ 8 Try.underlying24 hi0 hz0 hz1 hz2 rfl _ 0 [] rfl (own_empty (Blk.fresh _ _ _) (Nat.le_refl _)) _ _ (nv data) rfl ((HA1.out.up HB3.out).up (bal (brf w3) _)) (nv_one _) (by rw [nv_len]; unfold maxLen; omega) (by rw [nv_len]; omega) (by simp) ?_; intro v4 w4 ho4 hg4)
  have ho4' : w4.ownsRow w3.heap.size 3 1 v4 (data.length + (R.length - R.length)) (nv (data ++ List.replicate (R.length - R.length) 0)) := by
    rw [Nat.sub_self]
    simpa [nv] using ho4
  have HO4 := Lib.hid ho4'
  have HB4 := Lib.hid (below_grown (bal (brf w3) (.cells #[] 3)) hg4 (own_empty (Blk.fresh _ _ _) (Nat.le_refl _)) (by simp))
  clear ho4 hg4 ho4'
  go_wp2_with fail
  go_loopw [8, 9] (fun ov iv wr => ∃ (j : Nat), R.length ≤ j ∧ j ≤ n ∧ iv = .int .i64 j ∧ Hid (wr.ownsRow w3.heap.size 3 1 ov (data.length + (j - R.length)) (nv (data ++ List.replicate (j - R.length) 0))) ∧ Hid (Below w3.heap.size w3 wr)) (fun _ iv _ => n - (intOf iv).toNat)
  case atStart => exact ⟨R.length, Nat.le_refl _, hrl, rfl, HO4, HB4⟩
  case round =>
    clear HO4 HB4
    obtain ⟨j, hj1, hj, rfl, HO, HW⟩ := hrel
    by_cases hlt : j < n
    · have hnx : nv (data ++ List.replicate (j - R.length) 0) ++ [.int .i64 0] = nv (data ++ List.replicate (j + 1 - R.length) 0) := by
        rw [show j + 1 - R.length = (j - R.length) + 1 by omega, List.replicate_succ']
        simp [nv]
      have hsz := HW.out.size
      have hnl : data.length + (j - R.length) + 1 = data.length + (j + 1 - R.length) := by omega
      have HNX := Lib.hid (And.intro hnx hnl); clear hnx hnl
      have hjr : data.length + (j - R.length) + 1 ≤ 8193 := by omega
      go_wp2_with (at_builtin; refine list_app_rd _ rfl _ _ 24 rfl w3.heap.size 3 i0 _ 8 Try.underlying24 hi0 hz0 hz1 hz2 rfl _ (data.length + (j - R.length)) (nv (data ++ List.replicate (j - R.length) 0)) rfl (HO.out.alloc _) _ _ [.int .i64 0] rfl (Rd.one rfl 3 (.int .i64 0)) (fun u hu => by rw [List.mem_singleton] at hu; rw [hu]; rfl) (by simp only [List.length_singleton]; unfold maxLen; omega) (by simp only [List.length_singleton]; omega) (Nat.le_trans hsz (by simp)) ?_; intro v5 w5 ho5 hg5)
      have HB5 := Lib.hid (below_grown (bal HW.out (.cells #[.int .i64 0] 3)) hg5 (HO.out.alloc _) (Nat.le_trans hsz (by simp)))
      rw [List.length_singleton, HNX.out.1, HNX.out.2] at ho5
      have HO5 := Lib.hid ho5; clear ho5 hg5
      go_wp2
      go_roundw
      case rel => exact ⟨j + 1, by omega, by omega, by go_num, HO5, HB5⟩
      case measure => simp [intOf]; omega
    · obtain rfl : j = n := by omega
      have hsz := HW.out.size
      go_wp2_with (at_builtin; refine list_app_rd _ rfl _ _ 24 rfl w3.heap.size 3 i0 _ 8 Try.underlying24 hi0 hz0 hz1 hz2 rfl _ (data.length + (j - R.length)) (nv (data ++ List.replicate (j - R.length) 0)) rfl HO.out _ _ (nv R) rfl (HV3.out.up HW.out).rd (nv_one _) (by rw [nv_len]; unfold maxLen; omega) (by rw [nv_len]; omega) hsz ?_; intro v5 w5 ho5 hg5)
      have hb5 := below_grown HW.out hg5 HO.out hsz
      go_wp2
      go_ret
      refine ⟨_, rfl, ?_, bup (bup HB0.out HB3.out) hb5⟩
      have := RdT.of_own ho5
      rw [← nv_append, List.append_assoc] at this
      rw [← HER.out]
      exact this

/-! ### laws.rsWords -/
def rwMost (F : Gf.Fd) : Nat := min (F.s - 1) 255
def rwMany (F : Gf.Fd) (ec : Nat) : Nat := 2 + ec % min 40 (rwMost F - 2)
def rwData (F : Gf.Fd) (xs : List Int) (ec : Nat) : List Nat := (xs.take (rwMost F - rwMany F ec)).map (el F)
theorem rw_bounds (F : Gf.Fd) (hs : 16 ≤ F.s) (ec : Nat) : 15 ≤ rwMost F ∧ rwMost F ≤ 255 ∧ rwMost F ≤ F.s - 1 ∧ 2 ≤ rwMany F ec ∧ rwMany F ec ≤ 41 ∧ rwMany F ec < rwMost F := by
  unfold rwMany
  have h1 : rwMost F = min (F.s - 1) 255 := rfl
  have h2 : min 40 (rwMost F - 2) ≤ 40 := Nat.min_le_left _ _
  have h3 : min 40 (rwMost F - 2) ≤ rwMost F - 2 := Nat.min_le_right _ _
  have h4 : 0 < min 40 (rwMost F - 2) := by omega
  have h5 := Nat.mod_lt ec h4
  omega
theorem rwData_lt (F : Gf.Fd) (xs : List Int) (ec : Nat) : ∀ x ∈ rwData F xs ec, x < F.s := fun x hx => by
  obtain ⟨y, _, rfl⟩ := List.mem_map.1 hx; exact el_lt F y
theorem rwData_len (F : Gf.Fd) (xs : List Int) (ec : Nat) : (rwData F xs ec).length ≤ rwMost F - rwMany F ec := by
  unfold rwData; rw [List.length_map, List.length_take]; exact Nat.min_le_left _ _
theorem fld_s (n : Nat) : (fld n).s = 16 ∨ (64 ≤ (fld n).s ∧ (fld n).s ≤ 256) ∨ 1024 ≤ (fld n).s := by
  have : ∀ F ∈ Gf.fields, F.s = 16 ∨ (64 ≤ F.s ∧ F.s ≤ 256) ∨ 1024 ≤ F.s := by decide
  exact this _ (fld_mem n)
theorem fld_16 (n : Nat) : 16 ≤ (fld n).s := by rcases fld_s n with h | h | h <;> omega
end Go.Proofs.Ytibdeekgcbmofaa
