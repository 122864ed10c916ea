/-
  WALKS: the encoder: Encode, impl.RSEncode.
-/
import Derived.Test.YtneojmkccgjcgaaRe5
import Derived.Test.YtneojmkccgjcgaaRf3
namespace Go.Proofs.Ytneojmkccgjcgaa
open Go.RowKit

theorem setCell_same {w : World} {g i : Nat} {t : TypeId} {cs : Array Value} {v : Value} (h : Blk w g t cs) (hv : cs[i]? = some v) : w.setCell ⟨g, i, none⟩ v = w := by
  have hi : i < cs.size := (Array.getElem?_eq_some_iff.1 hv).1
  have hcs : cs.setIfInBounds i v = cs := by
    apply Array.ext_getElem?
    intro j
    rw [Array.getElem?_setIfInBounds]
    split
    · subst_vars; first | exact hv.symm | rw [if_pos hi, hv]
    · rfl
  have hg : g < w.heap.size := h.lt
  have hp := h.put i v
  rw [hcs] at hp
  have hheap : (w.setCell ⟨g, i, none⟩ v).heap = w.heap := by
    apply Array.ext_getElem?
    intro j
    by_cases hj : j = g
    · subst hj; exact hp.trans h.symm
    · exact Below.heap_setCell w ⟨g, i, none⟩ v j hj
  cases w with
  | mk heap tape drawn os output =>
    simp only [World.setCell] at hheap ⊢
    congr 1

set_option maxRecDepth 100000 in
set_option maxHeartbeats 4000000 in
/-- Encode, of a new encoder. -/
theorem encode_any (F : Gf.Fd) (hF : Gf.Ok F) (h12 : F.m ≤ 12) (g ge gc q0 gl n L cap : Nat) (data : List Nat) (cur : Array Value) (v0 w : World) (hB : Below v0.heap.size v0 w) (hf : FieldAt v0 g F)
    (hge : Blk w ge 83 #[.pointer (some ⟨g, 0, none⟩), .slice (some ⟨gc, 0, none⟩) 1 1]) (hgc : Blk w gc 54 #[.pointer (some ⟨q0, 0, none⟩)]) (hq : PolyAt w q0 g [1])
    (h1 : v0.heap.size ≤ gc) (h2 : v0.heap.size ≤ ge) (hgl : Blk v0 gl 3 cur) (hL : L = data.length + n) (hcap : L ≤ cap) (hcm : cap ≤ maxLen) (hcs : cur.size = cap) (htk : cur.toList.take L = nv (data ++ List.replicate n 0))
    (hd : ∀ x ∈ data, x < F.s) (hdn : 0 < data.length) (hd4 : data.length ≤ 4096) (hn1 : 1 ≤ n) (hn4 : n ≤ 4096) (hn : n + F.b ≤ F.s) :
    Calls Try.prog 35 #[.pointer (some ⟨ge, 0, none⟩), .slice (some ⟨gl, 0, none⟩) L cap, .int .i64 n] w fun e w' => e = .returned .nilIface ∧ RdT w' 3 (.slice (some ⟨gl, 0, none⟩) L cap) (nv (Gf.enc F n data)) ∧ Below gl v0 w' := by
  have hs12 := s_le F h12
  have hs4 := Gf.s_ge4 hF
  have hLd : (L : Int) - (n : Int) = (data.length : Int) := by omega
  have hL1 : L ≤ data.length + n := by omega
  have hL2 : data.length + n ≤ L := by omega
  have HLL := Lib.hid hL; clear hL
  have HR0 := Lib.hid (And.intro hgl (And.intro hcs htk)); clear hgl hcs htk
  have HF := Lib.hid hf; clear hf
  have HB := Lib.hid hB; clear hB
  have HDt := Lib.hid hd
  obtain ⟨g1, g2, g3, _⟩ := Gf.gen_spec hF n
  have hzs := Gf.app_lt hd (Gf.rep_lt (F := F) n)
  have hzl : (data ++ List.replicate n 0).length = data.length + n := by simp
  have hzne : data ++ List.replicate n 0 ≠ [] := by intro h0; rw [h0, List.length_nil] at hzl; omega
  have hgt : Tidy (Gf.gen F n) := ⟨by rw [g1]; simp, .inr (by rw [g1]; simp)⟩
  have hg0 : (Gf.gen F n).getD 0 0 ≠ 0 := by rw [g1]; simp
  have hgl' : (Gf.gen F n).length = n + 1 := by rw [g1, List.length_cons, g2]
  have hrl := Gf.rest_len hF (n := n) (by omega) hd (data.length + n) (by omega)
  have her := Gf.enc_rest hF (n := n) (by omega) hd (data.length + n) (by omega)
  have htl := tidy_len (data ++ List.replicate n 0)
  have HDv := fun q1 q2 W h1 h2 h3 => divide_any F hF h12 g q1 q2 (data.length + n) (tidy (data ++ List.replicate n 0)) (Gf.gen F n) W h1 h2 h3 (Gf.tidy_lt hzs) g3 (tidy_tidy _ hzne) hgt hg0 (by omega) (by omega) (by omega)
  have hrne := rest_ne F (Gf.gen F n) (data.length + n) (tidy (data ++ List.replicate n 0)) (tidy_ne _ hzne)
  obtain ⟨R, hR⟩ : ∃ R, R = Gf.rest F (Gf.gen F n) (data.length + n) (tidy (data ++ List.replicate n 0)) := ⟨_, rfl⟩
  rw [← hR] at hrl her HDv hrne
  have hrn : 0 < R.length := by
    rcases R with _ | ⟨x, t⟩
    · exact absurd rfl hrne
    · simp
  have HDV := Lib.hid HDv; clear HDv hR hrne
  have HER := Lib.hid her; clear her
  have hdne : data ≠ [] := by rintro rfl; simp at hdn
  have htt : tidy (Gf.scaled F (tidy data) 1 ++ List.replicate n 0) = tidy (data ++ List.replicate n 0) := by
    rw [Gf.scaled_one hF (Gf.tidy_lt hd), Gf.tidy_app_tidy _ _ hdne (by intro h0; have := congrArg List.length h0; simp at this; omega)]
  have htdl := tidy_len data
  have htdn : 0 < (tidy data).length := by
    rcases hq : tidy data with _ | ⟨x, t⟩
    · exact absurd hq (tidy_ne _ hdne)
    · simp
  have HTT := Lib.hid (And.intro htt (And.intro (Gf.tidy_lt hd) hdne)); clear htt hdne
  clear g1 g2 g3 hzs hzl hzne htl hgt hg0 hgl' hd
  have c0 : w.cell? ⟨ge, 0, none⟩ = some (.pointer (some ⟨g, 0, none⟩)) := by rw [hge.cell]; rfl
  have HQE := Lib.hid (And.intro hge (And.intro hgc hq)); clear hge hgc hq
  have hmk := fun W => mk_ints data.length W (by omega)
  have hn0 : ¬ n = 0 := by omega
  have hdz : ¬ data = [] := by rintro rfl; simp at hdn
  unfold maxLen at hcm
  go_enter Try.func35, Try.ntmps35
  go_wp2_with fail
  refine (buildGen_any F hF h12 g ge gc q0 n v0 w HB.out HF.out HQE.out.1 HQE.out.2.1 HQE.out.2.2 h1 h2 hn1 hn).mono ?_
  rintro e w1 ⟨qg, rfl, hqg, c1, hb1⟩
  have HB1 := Lib.hid hb1; clear hb1 c0
  have HQG := Lib.hid hqg; clear hqg
  go_wp2_with (with_reducible refine stop_at (o := ⟨some 35, _, _, _, _, _⟩) ?_)
  refine Lib.hid ?_
  clear hmk
  have hsrc : ∀ W, Below v0.heap.size v0 W → ∀ j v, (nv data)[j]? = some v → W.cell? ((⟨gl, 0, none⟩ : Addr).add j) = some v := fun W hW j v hv => by
    have hj : j < data.length := by have := (List.getElem?_eq_some_iff.1 hv).1; rwa [nv_len] at this
    have e1 : (⟨gl, 0, none⟩ : Addr).add j = ⟨gl, j, none⟩ := by unfold Addr.add; split <;> simp_all
    rw [e1, (HR0.out.1.up hW).cell]
    have h3 : (cur.toList.take L)[j]? = some v := by
      rw [HR0.out.2.2, nv_append, List.getElem?_append_left (by rw [nv_len]; exact hj)]; exact hv
    rw [List.getElem?_take_of_lt (by omega)] at h3
    simpa using h3
  have HSrc := Lib.hid hsrc; clear hsrc
  refine wpList_copy_splice (o := ⟨some 35, _, _, _, _, _⟩) rfl _ _ 33 33 rfl 3 Try.underlying33 size_int _ _ _ _ _ _ rfl rfl w1.heap.size 0 (nv (List.replicate data.length 0)) 3 (Blk.fresh w1 _ _) (nv data) ?_ (fun _ => ⟨rfl, _, rfl, HSrc.out _ (bal HB1.out _)⟩) ?_ (nv_one _) w1.heap.size w1 (bal (brf w1) _) (Nat.le_refl _) ?_
  · rw [nv_len]; exact (Nat.min_eq_right (by omega)).symm
  · rw [nv_len, nv_len, List.length_replicate]; omega
  intro w2 HG2 hB2
  have hsp : splice (nv (List.replicate data.length 0)) 0 (nv data) = nv data := by unfold splice; simp [nv]
  rw [hsp] at HG2
  have HB2 := Lib.hid (bup HB1.out hB2)
  have HQG2 := Lib.hid (HQG.out.up hB2)
  have c2 : w2.cell? ⟨ge, 0, none⟩ = some (.pointer (some ⟨g, 0, none⟩)) := cell_up c1 hB2
  clear hsp HQG hB2 c1
  have HG2' : Hid (RdT w2 3 (.slice (some ⟨w1.heap.size, 0, none⟩) data.length data.length) (nv data)) := Lib.hid (RdT.of_blk (g := w1.heap.size) HG2.out (by rw [nv_len]) (by rw [nv_len]; exact Nat.le_refl _) (by unfold maxLen; omega))
  clear HG2
  go_wp2_with fail
  refine (newPoly_any g _ data _ HG2'.out HTT.out.2.2).mono ?_
  rintro e w3 ⟨q3, rfl, hq3, hb3⟩
  have HB3 := Lib.hid (bup HB2.out hb3)
  have HQG3 := Lib.hid (HQG2.out.up hb3); clear HQG2 c2 HG2' hb3
  have HQ3 := Lib.hid hq3; clear hq3
  go_wp2_with fail
  refine (monoMul_any F hF h12 g q3 n 1 (tidy data) _ (HF.out.up HB3.out) HQ3.out HTT.out.2.1 (by omega) htdn (by omega) (by omega)).mono ?_
  rintro e w4 ⟨q4, rfl, hq4, hb4⟩
  rw [HTT.out.1] at hq4
  have HB4 := Lib.hid (bup HB3.out hb4)
  have HQG4 := Lib.hid (HQG3.out.up hb4); clear HQG3 HQ3 hb4
  have HQ4 := Lib.hid hq4; clear hq4
  go_wp2_with fail
  refine (HDV.out q4 qg _ (HF.out.up HB4.out) HQ4.out HQG4.out).mono ?_
  rintro e w5 ⟨qa, qb, rfl, hqb, hb5⟩
  have HB5 := Lib.hid (bup HB4.out hb5); clear HQG4 HQ4 hb5
  have HQB := Lib.hid hqb; clear hqb
  go_wp2_with fail
  refine (getCoefficients_any qb g R _ HQB.out).mono ?_
  rintro e wr ⟨vc, rfl, hvc, rfl⟩
  obtain ⟨Ac, cc, rfl, k1, k2, k3⟩ := hvc.rd
  simp only [nv_len] at *
  unfold maxLen at k2
  obtain ⟨bc, oc, rfl, _, hcc⟩ := k3 hrn
  have HCC := Lib.hid hcc; clear hcc k3 hvc
  obtain ⟨z, hz⟩ : ∃ z : Nat, (n : Int) - (R.length : Int) = (z : Int) := ⟨n - R.length, by omega⟩
  have hz1 : z + R.length ≤ n := by omega
  have hz2 : n ≤ z + R.length := by omega
  have HRow := Lib.hid (HR0.out.1.up HB5.out)
  have hgv : gl < v0.heap.size := HR0.out.1.lt
  have hzero : ∀ i, i < z → cur[data.length + i]? = some (.int .i64 0) := fun i hi => by
    have h3 : (cur.toList.take L)[data.length + i]? = some (.int .i64 0) := by
      rw [HR0.out.2.2, nv_append, List.getElem?_append_right (by rw [nv_len]; omega), nv_len, Nat.add_sub_cancel_left, nv_at _ _ (by rw [List.length_replicate]; omega), List.getElem_replicate]; rfl
    rw [List.getElem?_take_of_lt (by omega)] at h3
    simpa using h3
  have HZero := Lib.hid hzero; clear hzero
  go_wp2_with fail
  go_loopw [17] (fun iv wx => ∃ (i : Nat), i ≤ z ∧ iv = .int .i64 i ∧ wx = wr) (fun iv _ => z - (intOf iv).toNat)
  case atStart => exact ⟨0, Nat.zero_le _, rfl, rfl⟩
  case round =>
    rename World => wx
    obtain ⟨i, hi, rfl, hwx⟩ := hrel
    subst hwx
    by_cases hlt : i < z
    · have hz0 := HZero.out i hlt
      have cO : wx.cell? ⟨gl, data.length + i, none⟩ = some (.int .i64 0) := by rw [HRow.out.cell]; exact hz0
      have fO : wx.frozen? ⟨gl, data.length + i, none⟩ = false := HRow.out.frozen _
      have hi1 : data.length + i < L := by omega
      have HS := Lib.hid (setCell_same HRow.out hz0); clear hz0
      go_wp2
      go_roundw
      case rel => exact ⟨i + 1, by omega, by go_num, HS.out⟩
      case measure => simp [intOf]; omega
    · obtain rfl : i = z := by omega
      have hlo : data.length + i < cap := by omega
      have hlo1 : data.length + i ≤ L := by omega
      have hlo2 : data.length + i < L := by omega
      go_wp2_with (with_reducible refine stop_at (o := ⟨some 83, _, _, _, _, _⟩) ?_)
      refine Lib.hid ?_
      have hsrc : ∀ j v, (nv R)[j]? = some v → wx.cell? ((⟨bc, oc, none⟩ : Addr).add j) = some v := fun j v hv => by
        have e1 : (⟨bc, oc, none⟩ : Addr).add j = ⟨bc, oc + j, none⟩ := by unfold Addr.add; split <;> simp_all
        rw [e1]; exact HCC.out j v hv
      have hcl : cur.toList.length = cap := by rw [Array.length_toList]; exact HR0.out.2.1
      refine wpList_copy_splice (o := ⟨some 83, _, _, _, _, _⟩) rfl _ _ 33 33 rfl 3 Try.underlying33 size_int _ _ _ _ _ _ rfl rfl gl (data.length + i) cur.toList 3 (by rw [Array.toArray_toList]; exact HRow.out) (nv R) ?_ (fun _ => ⟨rfl, _, rfl, hsrc⟩) ?_ (nv_one _) gl v0 (HB5.out.mono (Nat.le_of_lt hgv)) (Nat.le_refl _) ?_
      · rw [nv_len]; exact (Nat.min_eq_left (by omega)).symm
      · rw [nv_len, hcl]; omega
      intro w6 HG6 hB6
      have henc : ∀ (j : Nat) (u : Value), (nv (Gf.enc F n data))[j]? = some u → (splice cur.toList (data.length + i) (nv R))[j]? = some u := by
        have e1 : cur.toList.take (data.length + i) = nv (data ++ List.replicate i 0) := by
          have := congrArg (List.take (data.length + i)) HR0.out.2.2
          rw [List.take_take, Nat.min_eq_left (by omega)] at this
          rw [this, ← nv_take]
          congr 1
          rw [List.take_append, List.take_of_length_le (by omega), Nat.add_sub_cancel_left, List.take_replicate, Nat.min_eq_left (by omega)]
        have e2 : Gf.enc F n data = (data ++ List.replicate i 0) ++ R := by
          rw [← HER.out]
          unfold Gf.pad
          rw [show n - R.length = i by omega, List.append_assoc]
        intro j u hj
        unfold splice
        rw [e1, ← List.append_assoc, ← nv_append, ← e2]
        rw [List.getElem?_append_left (List.getElem?_eq_some_iff.1 hj).1]
        exact hj
      have hel := Gf.enc_len (F := F) n data
      go_wp2
      go_ret
      refine ⟨rfl, ⟨_, cap, by rw [nv_len, hel, ← HLL.out], by rw [nv_len, hel]; omega, by unfold maxLen; omega, fun _ => ⟨gl, 0, _, _, rfl, HG6.out, fun j u hu => ?_⟩⟩, hB6⟩
      rw [Nat.zero_add]
      simpa using henc j u hu

set_option maxRecDepth 100000 in
/-- impl.RSEncode. -/
theorem implEncode_any (F : Gf.Fd) (hF : Gf.Ok F) (h12 : F.m ≤ 12) (n : Nat) (v : Value) (data : List Nat) (w : World) (hv : Rd w w.heap.size v (nv data))
    (hd : ∀ x ∈ data, x < F.s) (hdn : 0 < data.length) (hd4 : data.length ≤ 4096) (hn1 : 1 ≤ n) (hn4 : n ≤ 4096) (hn : n + F.b ≤ F.s) :
    Calls Try.prog 21 #[.agg #[.int .i64 F.p, .int .i64 F.s, .int .i64 F.b], v, .int .i64 n] w fun e w' => ∃ v', e = .returned (.tuple #[v', .bool true]) ∧ RdT w' 3 v' (nv (Gf.enc F n data)) ∧ Below w.heap.size w w' := by
  obtain ⟨i0, hi0, hz0, hz1, hz2⟩ := info_parts info_int
  have HV := Lib.hid hv; clear hv
  have HX := Lib.hid hd; clear hd
  have hmx : max (0 : Int) (n : Int) = (n : Int) := by omega
  have hmx2 : (0 : Int) ≤ (n : Int) := by omega
  have hmx3 : (0 : Int) < (n : Int) := by omega
  obtain ⟨wb, hwb⟩ : ∃ wb, wb = w.alloc (.cells #[.int .i64 F.p, .int .i64 F.s, .int .i64 F.b] 26) := ⟨_, rfl⟩
  have HBk : Hid (Blk wb w.heap.size 26 #[.int .i64 F.p, .int .i64 F.s, .int .i64 F.b]) := Lib.hid (by rw [hwb]; exact Blk.fresh _ _ _)
  have HB0 : Hid (Below w.heap.size w wb) := Lib.hid (by rw [hwb]; exact bal (brf w) _)
  have HWB := Lib.hid hwb.symm; clear hwb
  go_enter Try.func21, Try.ntmps21
  go_wp2_with (with_reducible refine stop_at (o := ⟨some 11, _, _, _, _, _⟩) ?_)
  refine Lib.hid ?_
  rw [HWB.out]
  refine list_app_rd _ rfl _ _ 33 rfl wb.heap.size 3 i0 _ 8 Try.underlying33 hi0 hz0 hz1 hz2 rfl _ 0 [] rfl (own_nil _ _ _) _ _ (nv data) rfl (HV.out.up HB0.out) (nv_one _) (by rw [nv_len]; unfold maxLen; omega) (by rw [nv_len]; omega) (Nat.le_refl _) ?_
  intro v1 w1 ho1 hg1
  have HO1 := Lib.hid ho1
  have HB1 := Lib.hid (below_grown (brf wb) hg1 (own_nil _ _ 3) (Nat.le_refl _)); clear ho1 hg1
  go_wp2_with (with_reducible refine stop_at (o := ⟨some 14, _, _, _, _, _⟩) ?_)
  refine Lib.hid ?_
  refine list_app_zeros _ rfl _ _ 33 3 rfl wb.heap.size 3 i0 _ (.int .i64 0) 8 Try.underlying33 Try.underlying3 hi0 hz0 hz1 hz2 rfl rfl v1 (0 + (nv data).length) ([] ++ nv data) rfl HO1.out n rfl (by rw [nv_len]; unfold maxLen; omega) (by rw [nv_len]; omega) HB1.out.size ?_
  intro v2 w2 ho2 hg2
  have HB2 := Lib.hid (below_grown HB1.out hg2 HO1.out HB1.out.size)
  have hx2 : [] ++ nv data ++ List.replicate n (Value.int .i64 0) = nv (data ++ List.replicate n 0) := by simp [nv]
  have hl2 : 0 + (nv data).length + n = data.length + n := by rw [nv_len]; omega
  rw [hx2, hl2] at ho2
  clear hx2 hl2 HO1 hg2
  have ho2' := ho2
  rcases ho2 with ⟨_, ⟨_, h0⟩ | ⟨gl, cap, cur, rfl, hbg, hg, hnc, hcm, hcs, htk⟩⟩
  · omega
  have hbl : Blk w2 gl 3 cur := hg
  have HBL := Lib.hid hbl; clear hbl hg
  obtain ⟨x0, x1, x2⟩ := (HBk.out.up HB2.out).three
  have htk' : cur.toList.take (data.length + n) = nv (data ++ List.replicate n 0) := by simpa using htk
  have hcs' : cur.size = cap := by omega
  obtain ⟨L, hL⟩ : ∃ L, L = data.length + n := ⟨_, rfl⟩
  rw [← hL] at htk' hnc ⊢
  have HTK := Lib.hid (And.intro htk' (And.intro hcs' hL)); clear htk htk' hcs hcs' hL ho2'
  go_wp2_with fail
  refine (implField_any F hF h12 _).mono ?_
  rintro e w3 ⟨g, rfl, hf, hb3⟩
  have HF := Lib.hid hf; clear hf
  have HBL3 := Lib.hid (HBL.out.up hb3)
  have HB3 := Lib.hid (bup HB2.out hb3); clear hb3 x0 x1 x2
  go_wp2_with fail
  refine (newEncoder_any g _).mono ?_
  rintro e w4 ⟨ge, gc, q0, rfl, hge, hgc, hq0, hle1, hle2, hb4⟩
  have HE := Lib.hid (And.intro hge (And.intro hgc hq0)); clear hge hgc hq0
  have HB4 := Lib.hid hb4; clear hb4
  go_wp2_with fail
  refine (encode_any F hF h12 g ge gc q0 gl n L cap data cur w3 w4 HB4.out HF.out HE.out.1 HE.out.2.1 HE.out.2.2 hle1 hle2 HBL3.out HTK.out.2.2 hnc hcm HTK.out.2.1 (by rw [HTK.out.1]) HX.out hdn hd4 hn1 hn4 hn).mono ?_
  rintro e w5 ⟨rfl, hv5, hb5⟩
  have HV5 := Lib.hid hv5; clear hv5
  have HB5 := Lib.hid hb5; clear hb5
  go_wp2
  go_ret2
  refine ⟨_, rfl, HV5.out, ?_⟩
  have hs1 := HB0.out.size
  exact bup HB0.out (HB3.out.trans (HB5.out.mono hbg))
end Go.Proofs.Ytneojmkccgjcgaa
