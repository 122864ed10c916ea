/-
  WALKS: spec.DMBits.
-/
import Derived.Test.YtknipefcihkofaaDs5
import Derived.Test.YtknipefcihkofaaRw
namespace Go.Proofs.Ytknipefcihkofaa
open Go.RowKit

/-- A module of the reference. -/
def specF (ws : List UInt8) (rows cols : Nat) (M : Mod) (x y : Nat) : Bool :=
  if M (y * cols + x) < 0 then decide ((y : Int) - rows = (x : Int) - cols)
  else decide ((ws.getD ((M (y * cols + x)).toNat / 8) 0).toNat / 2 ^ (7 - (M (y * cols + x)).toNat % 8) % 2 = 1)
theorem own_ty {w : World} {base : Nat} {e e' : TypeId} {size n : Nat} {v : Value} {xs : List Value} (h : w.ownsRow base e' size v n xs) (he : e' ≠ e) : ∀ g, v.ownBlock = some g → ∃ cs t fr, w.heap[g]? = some (.cells cs t fr) ∧ t ≠ e := by
  obtain ⟨h1, ⟨rfl, _⟩ | ⟨g, cap, cur, rfl, hb, hg, r⟩⟩ := h
  · intro g hg; simp [Value.ownBlock] at hg
  · intro g' hg'
    simp only [Value.ownBlock, Option.some.injEq] at hg'
    subst hg'
    exact ⟨_, _, _, hg, he⟩
theorem u8_shr (x k : Nat) (hx : x < 256) : (bits .and .u8 ((x : Int) / 2 ^ k) 1 == 1) = decide (x / 2 ^ k % 2 = 1) := by
  have e : (x : Int) / 2 ^ k = ((x / 2 ^ k : Nat) : Int) := by simp
  have hl : x / 2 ^ k < 256 := Nat.lt_of_le_of_lt (Nat.div_le_self _ _) hx
  have := u8_and (x / 2 ^ k) 1 hl (by decide)
  rw [e, show (1 : Int) = ((1 : Nat) : Int) from rfl, this, Nat.and_one_is_mod]
  rw [Bool.eq_iff_iff]; simp; omega
set_option maxRecDepth 100000 in
set_option maxHeartbeats 4000000 in
theorem bits_any (n rows cols k : Nat) (v : Value) (ws : List UInt8) (Me : Mod) (w : World) (hv : Rd w w.heap.size v (bl ws)) (hn : ws.length = n) (hs : sweepG modHas modSet n rows cols (rows + cols) 4 0 (0, fun _ => -1) = some (k, Me)) (hme : ∀ i, -1 ≤ Me i ∧ Me i < 8 * n) (hn0 : 0 < n) (hR : rows ≤ 200) (hC : cols ≤ 200) (hR6 : 6 ≤ rows) (hC6 : 6 ≤ cols) (hn1 : n ≤ 100000) :
    Calls Try.prog 18 #[v, .int .i64 rows, .int .i64 cols] w fun e w' => ∃ v', e = .returned v' ∧ RowsT w' v' (rowsF cols rows (specF ws rows cols Me)) ∧ Below w.heap.size w w' := by
  obtain ⟨i0, hi0, hz0, hz1, hz2⟩ := info_parts info_bools
  obtain ⟨wb, wo, wc, rfl, hwc1, hwc2, -⟩ := rd_byte' hv (by omega)
  unfold maxLen at hwc2
  rw [hn] at hwc1
  have HV := Lib.hid hv; have HS := Lib.hid hs; have HNN := Lib.hid hn; have HME := Lib.hid hme
  rw [hn]
  clear hv hs hn hme
  have hmkb := fun a => mk_bools cols a (by omega)
  go_enter Try.func18, Try.ntmps18
  go_wp2_with fail
  refine (map_any n rows cols k Me _ HS.out hR hC hR6 hC6 hn1).mono ?_
  rintro e w1 ⟨av, q, gr, rfl, hsp, hb⟩
  obtain ⟨vb, vo, vc, rfl, hv1, hv2, hvr⟩ := hsp.row_ (by omega)
  unfold maxLen at hv2
  have HSP := Lib.hid hsp; have HB1 := Lib.hid hb; have HVR := Lib.hid hvr
  have HV1 := Lib.hid (HV.out.up hb)
  clear hsp hb hvr HV
  go_wp2_with fail
  go_loopw [7, 17] (fun ov iv wr => ∃ (r : Nat) (vs : List Value), r ≤ rows ∧ iv = .int .i64 r ∧ Hid (wr.ownsRow w1.heap.size 43 1 ov r vs) ∧ Hid (∀ i, i < r → RdT wr 4 (vs.getD i undef) (bv (rowF cols (specF ws rows cols Me) i))) ∧ Hid (Below w1.heap.size w1 wr)) (fun _ iv _ => rows - (intOf iv).toNat)
  case atStart => exact ⟨0, [], Nat.zero_le _, rfl, Lib.hid (own_nil _ _ _), Lib.hid (fun i hi => absurd hi (Nat.not_lt_zero _)), Lib.hid (brf w1)⟩
  case round =>
    obtain ⟨r, vs, hr, rfl, HO, HR, HB⟩ := hrel
    rename Value => ov
    by_cases hlt : r < rows
    · obtain ⟨G, hG⟩ : ∃ G, G = wr.heap.size := ⟨_, rfl⟩
      have HG := Lib.hid hG
      go_wp2_with fail
      rw [← hG]
      clear hG
      obtain ⟨wm, hwm⟩ : ∃ wm, wm = wr.alloc (.cells (bv (List.replicate cols false)).toArray 4) := ⟨_, rfl⟩
      rw [← hwm]
      have HWM := Lib.hid hwm; clear hwm
      obtain ⟨row, hrow⟩ : ∃ row, row = rowF cols (specF ws rows cols Me) r := ⟨_, rfl⟩
      have hrl : row.length = cols := by rw [hrow, rowF_len]
      have hra : ∀ x (hx : x < row.length), row[x] = specF ws rows cols Me x r := fun x hx => by subst hrow; exact rowF_at _ _ _ _ hx
      have HRA := Lib.hid hra; have HROW := Lib.hid hrow; have HRL := Lib.hid hrl
      clear hrow hrl hra
      go_loopw [23] (fun xv wi => ∃ (x : Nat), x ≤ cols ∧ xv = .int .i64 x ∧ Hid (Blk wi G 4 (bv (fillA row false cols x)).toArray) ∧ Hid (Below G wm wi)) (fun xv _ => cols - (intOf xv).toNat)
      case atStart => exact ⟨0, Nat.zero_le _, rfl, Lib.hid (by rw [fill_zero, HWM.out, HG.out]; exact Blk.fresh wr _ _), Lib.hid (Below.refl _ _)⟩
      case round =>
        rename World => wi
        obtain ⟨x, hx, rfl, HK, HBi⟩ := hrel
        have hbw : Below wr.heap.size wr wi := by
          have h1 := HBi.out
          rw [HG.out] at h1
          have h2 : Below wr.heap.size wr wm := by rw [HWM.out]; exact bal (brf _) _
          exact h2.trans h1
        have HBW := Lib.hid hbw; clear hbw
        by_cases hxl : x < cols
        · have hxr : x < row.length := by rw [HRL.out]; exact hxl
          have hset := fill_set row false cols x hxr (by rw [HRL.out]; exact Nat.le_refl _)
          rw [HRA.out x hxr] at hset
          have hb2 : Below w1.heap.size w1 wi := HB.out.trans (HBW.out.mono HB.out.size)
          have hsp2 := HSP.out.up hb2
          have k4 := HVR.out wi hsp2 r hlt
          have k5 : wi.cell? ⟨gr r, x, none⟩ = some (.int .i64 (Me (r * cols + x))) := by rw [(hsp2.inner r hlt).cell]; exact rowI_at _ _ _ _ hxl
          have hV2 := HV1.out.up hb2
          have hm := HME.out (r * cols + x)
          have cO : wi.cell? ⟨G, x, none⟩ = some (.bool false) := by
            rw [HK.out.cell, List.getElem?_toArray]
            unfold bv
            rw [List.getElem?_map, fill_at_k row false cols x hxl (by omega)]; rfl
          have fO := HK.out.frozen x
          have hF : specF ws rows cols Me x r = if Me (r * cols + x) < 0 then decide ((r : Int) - rows = (x : Int) - cols) else decide ((ws.getD ((Me (r * cols + x)).toNat / 8) 0).toNat / 2 ^ (7 - (Me (r * cols + x)).toNat % 8) % 2 = 1) := rfl
          have HV2 := Lib.hid hV2
          clear hb2 hsp2 hV2
          generalize Me (r * cols + x) = z at *
          obtain ⟨bb, hbb⟩ : ∃ bb, bb = specF ws rows cols Me x r := ⟨_, rfl⟩
          rw [← hbb] at hset hF
          clear hbb
          have HKn : Hid (Blk (wi.setCell ⟨G, x, none⟩ (.bool bb)) G 4 (bv (fillA row false cols (x + 1))).toArray) := Lib.hid (by
            have := HK.out.put x (.bool bb)
            rw [bv_set, hset] at this; exact this)
          have HBn := Lib.hid (HBi.out.setCell (p := ⟨G, x, none⟩) (Nat.le_refl _) (.bool bb))
          clear hset
          by_cases hz : z < 0
          · rw [if_pos hz] at hF
            have hB : ((r : Int) - rows == (x : Int) - cols) = bb := by rw [hF]; rfl
            clear hF
            go_wp2
            go_roundw
            case rel => exact ⟨x + 1, by omega, by go_num, HKn, HBn⟩
            case measure => simp [intOf] <;> omega
          · rw [if_neg hz] at hF
            obtain ⟨zn, rfl⟩ := Int.eq_ofNat_of_zero_le (show 0 ≤ z by omega)
            rw [Int.toNat_natCast] at hF
            obtain ⟨a, ha⟩ : ∃ a, a = zn / 8 := ⟨_, rfl⟩
            obtain ⟨b8, hb8⟩ : ∃ b, b = zn % 8 := ⟨_, rfl⟩
            rw [← ha, ← hb8] at hF
            have d1 : (zn : Int) / 8 = (a : Int) := by omega
            have d2 : (zn : Int) % 8 = (b8 : Int) := by omega
            have d3 : a < n := by omega
            have d4 : b8 < 8 := by omega
            obtain ⟨kk, hkk⟩ : ∃ k, k = 7 - b8 := ⟨_, rfl⟩
            have d5 : 7 - (b8 : Int) = (kk : Int) := by omega
            rw [← hkk] at hF
            clear hkk ha hb8
            obtain ⟨b', o', c', hve, -, -, hcb⟩ := rd_byte' HV2.out (by rw [HNN.out]; omega)
            injection hve with e1 _ _
            injection e1 with e1
            injection e1 with e1 e2 _
            subst e1 e2
            have hal : a < ws.length := by rw [HNN.out]; exact d3
            have cW := hcb a hal
            rw [List.getD, List.getElem?_eq_getElem hal, Option.getD_some] at hF
            have hby := ws[a].toNat_lt
            generalize ws[a].toNat = y at *
            have hB := u8_shr y kk (by omega)
            rw [← hF] at hB
            clear hF hcb
            go_wp2
            go_roundw
            case rel => exact ⟨x + 1, by omega, by go_num, HKn, HBn⟩
            case measure => simp [intOf] <;> omega
        · have hxe : cols = x := by omega
          subst hxe
          have hB2 : Blk wi G 4 (bv row).toArray := by
            have h1 := HK.out
            have e := fill_full row false
            rw [HRL.out] at e
            rw [e] at h1; exact h1
          have HBR := Lib.hid hB2
          have HO2 := Lib.hid (own_up HO.out HBW.out)
          have HBB : Hid (Below w1.heap.size w1 wi) := Lib.hid (HB.out.trans (HBW.out.mono HB.out.size))
          clear hB2 HK HBi HO
          go_wp2_with (with_reducible refine stop_at (o := ⟨some 68, _, _, _, _, _⟩) ?_)
          refine Lib.hid ?_
          refine list_app_rd _ rfl _ _ 39 rfl w1.heap.size 43 i0 _ 24 Try.underlying39 hi0 hz0 hz1 hz2 rfl _ r vs rfl (HO2.out.alloc _) _ _ [.slice (some ⟨G, 0, none⟩) cols cols] rfl (Rd.one rfl _ _) (fun u hu => by simp at hu; subst hu; rfl) (by simp only [List.length_singleton]; unfold maxLen; omega) (by simp only [List.length_singleton]; omega) (by have := HBB.out.size; simp; omega) ?_
          intro v1 w3 ho1 hg1
          have hvl : vs.length = r := by have := HO2.out.1; simpa using this
          have hRR : ∀ i, i < r + 1 → RdT w3 4 ((vs ++ [Value.slice (some ⟨G, 0, none⟩) cols cols]).getD i undef) (bv (rowF cols (specF ws rows cols Me) i)) := fun i hi => by
            rcases Nat.lt_or_ge i r with hiv | hiv
            · rw [getD_snoc_lo _ _ _ _ (by omega)]
              exact (((HR.out i hiv).up HBW.out).up (bal (brf _) _)).grown hg1 (own_ty (HO2.out.alloc _) (by decide))
            · have hie : i = vs.length := by omega
              rw [hie, getD_snoc, hvl, ← HROW.out]
              exact ((RdT.of_blk (HBR.out) (by rw [bv_len, HRL.out]) (by rw [bv_len, HRL.out]; exact Nat.le_refl _) (by unfold maxLen; omega)).up (bal (brf _) _)).grown hg1 (own_ty (HO2.out.alloc _) (by decide))
          have HRR := Lib.hid hRR
          have HO3 := Lib.hid ho1
          have HB3 : Hid (Below w1.heap.size w1 w3) := Lib.hid (below_grown (HBB.out.alloc HBB.out.size _) hg1 (HO2.out.alloc _) (by have := HBB.out.size; simp; omega))
          clear hRR ho1 hg1 hvl HR HO2 HBB HBR HBW HRA HROW HRL HB
          go_wp2
          go_roundw
          case rel => exact ⟨r + 1, _, by omega, by go_num, HO3, HRR, HB3⟩
          case measure => simp [intOf] <;> omega
    · have hre : rows = r := by omega
      subst hre
      have HE := Lib.hid HO.out
      go_wp2
      go_ret
      refine ⟨_, rfl, ⟨vs, RdT.of_own HE.out, ?_, ?_⟩, bup HB1.out HB.out⟩
      · rw [rowsF_len]; have := HE.out.1; simpa using this
      · intro i hi
        rw [rowsF_len] at hi
        rw [rowsF_at _ _ _ _ hi]
        exact HR.out i hi
end Go.Proofs.Ytknipefcihkofaa
