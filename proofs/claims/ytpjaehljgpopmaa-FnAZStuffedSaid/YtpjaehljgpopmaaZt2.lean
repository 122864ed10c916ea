/-
  THE WALK OF THE LAW FnAZStuffed.
-/
import Derived.Test.YtpjaehljgpopmaaZt1
namespace Go.Proofs.Ytpjaehljgpopmaa
open Go.RowKit

def lay2 (c : Bool) (n : Nat) : Nat := if c then 1 + n % 4 else 1 + n % 32
theorem lay2_le (c : Bool) (n : Nat) : 1 ≤ lay2 c n ∧ lay2 c n ≤ 32 := by unfold lay2; split <;> omega
theorem lay2_any (c : Bool) (n : Nat) (w : World) (hn : n < 256) : Calls Try.prog 4 #[.bool c, .int .u8 n] w fun e w' => e = .returned (.int .i64 (lay2 c n : Nat)) ∧ w' = w := by
  cases c
  · go_enter Try.func4, Try.ntmps4
    go_wp2
    go_ret
    exact ⟨ret_int (by unfold lay2; simp), rfl⟩
  · go_enter Try.func4, Try.ntmps4
    go_wp2
    go_ret
    exact ⟨ret_int (by unfold lay2; simp), rfl⟩
theorem dataW_at (wd : Nat) (xs : List Nat) (i : Nat) (hi : i < xs.length) (h200 : i < 200) : (dataW wd xs).take (i + 1) = (dataW wd xs).take i ++ [1 + xs.getD i 0 % (2 ^ wd - 2)] := by
  have hl : i < (dataW wd xs).length := by unfold dataW; rw [List.length_map, List.length_take]; omega
  rw [List.take_succ_eq_append_getElem hl]
  congr 2
  simp only [dataW, List.getElem_map, List.getElem_take]
  rw [List.getD, List.getElem?_eq_getElem hi]; rfl
theorem dataW_full (wd : Nat) (xs : List Nat) : (dataW wd xs).length = min xs.length 200 := by unfold dataW; rw [List.length_map, List.length_take, Nat.min_comm]
theorem enc_take {F : Gf.Fd} (n : Nat) (D : List Nat) : (Gf.enc F n D).take D.length = D := by unfold Gf.enc; rw [List.take_left]
theorem nv_snoc (a : List Nat) (x : Nat) : nv (a ++ [x]) = nv a ++ [.int .i64 (x : Int)] := by simp [nv]
set_option maxRecDepth 100000 in
set_option maxHeartbeats 4000000 in
theorem stuffed_walk (c : Bool) (nN : Nat) (v0 : Value) (l : List Int) (W : World) (hs : Rd W W.heap.size v0 (vals .u16 l)) (hwf : ∀ n ∈ l, (Lit.int .u16 n).wf = true) (hn : nN < 256) :
    Calls Try.prog 3 #[v0, .bool c, .int .u8 nN] W fun e w' => e = .returned (.bool true) ∧ Below W.heap.size W w' := by
  obtain ⟨i0, hi0, hz0, hz1, hz2⟩ := info_parts info_int
  have hl : ∀ x ∈ l, 0 ≤ x ∧ x < 65536 := fun x hx => by
    have := bounds_u16 (hwf x hx)
    omega
  have hLy := lay2_any c nN W hn
  obtain ⟨L1, L32⟩ := lay2_le c nN
  obtain ⟨L, hLv⟩ : ∃ x, x = lay2 c nN := ⟨_, rfl⟩
  rw [← hLv] at hLy L1 L32
  clear hLv hwf
  have hWd := fun w' => azWidth_any L w' L32
  obtain ⟨hF, hFm, hFb, hF12⟩ := fdL_facts L
  have hFs := fdL_s L
  have hw6 := widN_le L
  have hwo := widN_or L
  obtain ⟨cp1, cp2, cp3, cp4⟩ := capN_all L (by omega) L1 c (by cases c <;> simp)
  by_cases hlen : l.length ≤ 2147483647
  · have hs0 := hs
    obtain ⟨A, cap, rfl, q1, q2, q3⟩ := hs
    rw [vals_len] at q1 q3 ⊢
    unfold maxLen at q2
    have HQ := Lib.hid q3
    obtain ⟨xs, hxs⟩ : ∃ xs : List Nat, xs = l.map Int.toNat := ⟨_, rfl⟩
    have hxl : xs.length = l.length := by rw [hxs, List.length_map]
    have HXS : Hid (∀ i, i < l.length → ∃ x : Nat, l[i]? = some (x : Int) ∧ x = xs.getD i 0 ∧ x < 65536) := Lib.hid (fun i hi => by
      have h9 := hl _ (List.getElem_mem hi)
      refine ⟨(l[i]).toNat, ?_, ?_, by omega⟩
      · rw [List.getElem?_eq_getElem hi]; congr 1; omega
      · rw [hxs, List.getD, List.getElem?_map, List.getElem?_eq_getElem hi]; rfl)
    obtain ⟨wd, hwdv⟩ : ∃ x, x = widN L := ⟨_, rfl⟩
    rw [← hwdv] at hWd hFm hFs hw6 hwo cp1 cp3 cp4
    obtain ⟨D, hD⟩ : ∃ x, x = dataW wd xs := ⟨_, rfl⟩
    have hDlt := dataW_lt wd xs (by omega)
    have hDl := dataW_full wd xs
    have hDat := dataW_at wd xs
    rw [← hD] at hDlt hDl hDat
    rw [hxl] at hDl hDat
    obtain ⟨N, hN⟩ : ∃ N, N = D.length := ⟨_, rfl⟩
    have hN200 : N ≤ 200 := by omega
    have hNl : N ≤ l.length := by omega
    have hNe : N = l.length ∨ N = 200 := by omega
    have HDA : Hid (∀ i, i < N → D.take (i + 1) = D.take i ++ [1 + xs.getD i 0 % (2 ^ wd - 2)]) := Lib.hid (fun i hi => hDat i (by omega) (by omega))
    have HDL := Lib.hid (And.intro hN (And.intro hDlt hwdv))
    obtain ⟨Q, hQ⟩ : ∃ x, x = 2 ^ wd := ⟨_, rfl⟩
    have hQ1 : 64 ≤ Q ∧ Q ≤ 4096 := by rw [hQ]; rcases hwo with h | h | h | h <;> rw [h] <;> decide
    obtain ⟨P, hP⟩ : ∃ x, x = Q - 2 := ⟨_, rfl⟩
    have e1 : (2 : Int) ^ wd = (Q : Int) := by rw [hQ]; simp
    have e2 : (Q : Int) - 2 = (P : Int) := by omega
    have hP0 : ¬ ((P : Int) = 0) := by omega
    have hPp : 0 < P ∧ P ≤ 4096 := by omega
    have hPb : P ≤ 4096 := hPp.2
    have hQb : Q ≤ 4096 := hQ1.2
    have HPQ := Lib.hid (And.intro hQ hP)
    have HF := Lib.hid (And.intro hF (And.intro hFb (And.intro hF12 (And.intro hFs (And.intro cp1 (And.intro cp2 (And.intro cp3 cp4)))))))
    have HW := Lib.hid hwo
    clear hxs hxl hD hDlt hDl hDat hN hQ hP hwdv q3 hl hF hFm hFb hF12 hFs cp1 cp2 cp3 cp4 hwo hs0
    go_enter Try.func3, Try.ntmps3
    go_wp2_with fail
    refine hLy.mono ?_
    rintro e W ⟨rfl, rfl⟩
    clear hLy
    go_wp2_with fail
    refine (hWd _).mono ?_
    rintro e W ⟨rfl, rfl⟩
    clear hWd
    go_wp2_with fail
    go_loopw [9, 10] (fun lv iv wr => ∃ (i : Nat), i ≤ N ∧ iv = .int .i64 (i : Int) ∧ Hid (wr.ownsRow W.heap.size 3 1 lv i (nv (D.take i))) ∧ Hid (Below W.heap.size W wr)) (fun _ iv _ => N - (intOf iv).toNat)
    case atStart => exact ⟨0, Nat.zero_le _, rfl, Lib.hid (by simpa [nv] using own_nil W W.heap.size 3), Lib.hid (brf W)⟩
    case round =>
      obtain ⟨i, hi, rfl, HO, HB⟩ := hrel
      rename World => wr
      by_cases hlt : i < N
      · obtain ⟨x, hx1, hx2, hx3⟩ := HXS.out i (by omega)
        obtain ⟨b, o, rfl, hbb, hcc⟩ := HQ.out (by omega)
        have cX : wr.cell? ⟨b, o + i, none⟩ = some (.int .u16 (x : Int)) := by
          have h9 := hcc i (.int .u16 (x : Int)) (by unfold vals; rw [List.getElem?_map, hx1]; rfl)
          rw [below_cells HB.out b _ hbb]; exact h9
        have hil : i < l.length := by omega
        have hi200 : (i : Int) < 200 := by omega
        obtain ⟨r, hr⟩ : ∃ r, r = x % P := ⟨_, rfl⟩
        have t1 : Int.tmod (x : Int) (P : Int) = (r : Int) := by rw [Int.tmod_eq_emod_of_nonneg (by omega), hr]; simp
        have t2 : (x : Int) % (P : Int) = (r : Int) := by rw [hr]; simp
        have hrb : r < P := by rw [hr]; exact Nat.mod_lt _ hPp.1
        obtain ⟨y, hy⟩ : ∃ y, y = 1 + r := ⟨_, rfl⟩
        have e3 : (1 : Int) + (r : Int) = (y : Int) := by omega
        have HNX : Hid (D.take (i + 1) = D.take i ++ [y]) := Lib.hid (by
          rw [HDA.out i hlt, ← hx2, hy, hr, HPQ.out.2, HPQ.out.1])
        have hrb2 : y ≤ 4096 := by omega
        clear hy
        clear hcc hx1 hx2 hr hrb
        go_wp2_with (with_reducible refine stop_at (o := ⟨some 46, _, _, _, _, _⟩) ?_)
        refine Lib.hid ?_
        refine list_app_rd _ rfl _ _ 25 rfl W.heap.size 3 i0 _ 8 Try.underlying25 hi0 hz0 hz1 hz2 rfl _ i (nv (D.take i)) rfl (own_up HO.out (bal (brf wr) _)) _ _ [.int .i64 (y : Int)] rfl (Rd.one rfl _ _) (fun u hu => by simp at hu; subst hu; rfl) (by simp only [List.length_singleton]; unfold maxLen; omega) (by simp only [List.length_singleton]; omega) (by have := HB.out.size; simp; omega) ?_
        intro v1 w2 ho1 hg1
        rw [← nv_snoc, ← HNX.out] at ho1
        have HO2 := Lib.hid ho1
        have HB2 : Hid (Below W.heap.size W w2) := Lib.hid (below_grown (bal HB.out _) hg1 (own_up HO.out (bal (brf wr) _)) (by have := HB.out.size; simp; omega))
        clear ho1 hg1 HO HB cX t1 t2 e3
        go_wp2_with fail
        go_roundw
        case rel => exact ⟨i + 1, by omega, by go_num, HO2, HB2⟩
        case measure => simp [intOf]; omega
      · obtain rfl : i = N := by omega
        obtain ⟨d1, d2, d3⟩ := HDL.out
        subst d3
        have hown := HO.out
        rw [d1, List.take_length] at hown
        have hrd := RdT.of_own hown
        obtain ⟨gA, gc, hgf, -, -⟩ := hrd.rd.form
        have hnl : (nv D).length = D.length := by simp [nv]
        rw [hnl] at hgf
        subst hgf
        have hD2 : D.length ≤ 200 := by omega
        have hDp : ∀ x ∈ D, x < 2 ^ widN L := fun x hx => by have := d2 x hx; omega
        have hsy := azSymbol_any _ D c L wr hrd hDp hD2 L1 L32
        have HRD := Lib.hid hrd
        have HD2 := Lib.hid (And.intro d2 hDp)
        have hi1 : i = l.length ∨ (i < l.length ∧ i = 200) := by omega
        clear hown hnl d1 d2 hDp HO HDL HDA hNe hrd hlt hi
        rcases hi1 with hi1 | ⟨hi1, hi2⟩
        · have hc1 : ¬ i < l.length := by omega
          clear hi1
          go_wp2_with fail
          refine hsy.mono ?_
          rintro e w3 ⟨hb3, hcase⟩
          have HB3 := Lib.hid (HB.out.trans (hb3.mono HB.out.size))
          rcases hcase with ⟨s1, s2, v3, rfl, hv3⟩ | ⟨-, rfl⟩
          · obtain ⟨f1, f2, f3, f4, f5, f6, f7, f8⟩ := HF.out
            obtain ⟨al, hal⟩ : ∃ x, x = capN c L / widN L := ⟨_, rfl⟩
            rw [← hal] at hv3 s2 f5 f7 f8
            have hDF : ∀ x ∈ D, x < (fdL L).s := fun x hx => by rw [f4]; exact HD2.out.2 x hx
            obtain ⟨E, hE⟩ : ∃ x, x = Gf.enc (fdL L) (al - D.length) D := ⟨_, rfl⟩
            have hEl : E.length = al := by rw [hE, Gf.enc_len]; omega
            have hElt : ∀ x ∈ E, x < (fdL L).s := by rw [hE]; exact Gf.enc_lt f1 _ hDF
            have hEt : E.take D.length = D := by rw [hE]; exact enc_take _ _
            have hEr : ∀ q, q < E.length - D.length → Gf.ev (fdL L) (Gf.ex (fdL L) (q + (fdL L).b)) E = 0 := fun q hq => by
              rw [hE]; exact Gf.enc_root f1 hDF (by omega)
            rw [← hE] at hv3
            have h4096 : (2 : Nat) ^ widN L ≤ 2 ^ 12 := Nat.pow_le_pow_right (by decide) hw6.2
            have hco : CorOk (widN L) (fdL L) E D.length := ⟨f1, f3, f2, f4, hElt, s1, hD2, by omega, by rw [hEl, f4]; exact f5, by omega, hEr, fun q hq => by
              have h9 : E.getD q 0 = D.getD q 0 := by
                have e9 : E[q]? = (E.take D.length)[q]? := (List.getElem?_take_of_lt hq).symm
                rw [List.getD, e9, hEt]; rfl
              have h8 : D.getD q 0 = D[q] := by rw [List.getD, List.getElem?_eq_getElem hq]; rfl
              rw [h9, h8]
              exact HD2.out.1 _ (List.getElem_mem hq)⟩
            have hwb := azWordBits_any v3 E c L w3 hv3 (fun x hx => by have := hElt x hx; rw [f4] at this; omega) (by omega) L1 L32
            have HCO := Lib.hid hco
            have HEL := Lib.hid (And.intro hEl hEt)
            have HRD3 := Lib.hid (HRD.out.up hb3)
            have hpre : (List.replicate (capN c L % widN L) false).length < widN L := by rw [List.length_replicate]; exact Nat.mod_lt _ (by omega)
            have HPRE := Lib.hid hpre
            have hEl2 : E.length ≤ 1664 := by omega
            clear hsy hb3 hv3 hco hE hEl hElt hEt hEr hDF f1 f2 f3 f4 f5 f6 f7 f8 hal hpre s2 h4096
            go_wp2_with fail
            refine hwb.mono ?_
            rintro e w4 ⟨v4, rfl, hv4, hb4⟩
            have HB4 := Lib.hid (HB3.out.trans (hb4.mono HB3.out.size))
            have HRD4 := Lib.hid (HRD3.out.up hb4)
            have hcr := azCorrected_any v4 c _ E D.length L _ w4 HCO.out HPRE.out hv4 rfl (by
              rw [List.length_append, wbits_len]
              have h1 := HPRE.out
              have h2 : widN L * E.length ≤ 12 * 1664 := Nat.mul_le_mul hw6.2 hEl2
              omega)
            clear hwb hb4 hv4 HB3 HRD3
            go_wp2_with fail
            refine hcr.mono ?_
            rintro e w5 ⟨u, rfl, hu, hb5⟩
            rw [HEL.out.2] at hu
            have HB5 := Lib.hid (HB4.out.trans (hb5.mono HB4.out.size))
            have hun := azUnstuffed_any _ D (widN L) w5 (HRD4.out.up hb5) (fun x hx => by
              have h1 := HD2.out.2 x hx
              have h2 : (2 : Nat) ^ widN L ≤ 2 ^ 12 := Nat.pow_le_pow_right (by decide) hw6.2
              omega) (by omega) (widN_or L)
            have HU := Lib.hid hu
            clear hcr hu hb5 HB4 HRD4
            go_wp2_with fail
            refine hun.mono ?_
            rintro e w6 ⟨v6, rfl, hv6, hb6⟩
            have hsb := sameBits_yes u v6 _ w6 (HU.out.up hb6).rd hv6.rd
            have HB6 := Lib.hid (HB5.out.trans (hb6.mono HB5.out.size))
            clear hun hv6 hb6 HB5 HU
            go_wp2_with fail
            refine hsb.mono ?_
            rintro e w7 ⟨rfl, hb7⟩
            have HB7 := Lib.hid (HB6.out.trans (hb7.mono HB6.out.size))
            clear hsb hb7 HB6
            go_wp2_with fail
            go_ret
            exact ⟨rfl, HB7.out⟩
          · clear hsy hb3
            go_wp2_with fail
            go_ret
            exact ⟨rfl, HB3.out⟩
        · have hc2 : ¬ (i : Int) < 200 := by omega
          clear hi2
          go_wp2_with fail
          refine hsy.mono ?_
          rintro e w3 ⟨hb3, hcase⟩
          have HB3 := Lib.hid (HB.out.trans (hb3.mono HB.out.size))
          rcases hcase with ⟨s1, s2, v3, rfl, hv3⟩ | ⟨-, rfl⟩
          · obtain ⟨f1, f2, f3, f4, f5, f6, f7, f8⟩ := HF.out
            obtain ⟨al, hal⟩ : ∃ x, x = capN c L / widN L := ⟨_, rfl⟩
            rw [← hal] at hv3 s2 f5 f7 f8
            have hDF : ∀ x ∈ D, x < (fdL L).s := fun x hx => by rw [f4]; exact HD2.out.2 x hx
            obtain ⟨E, hE⟩ : ∃ x, x = Gf.enc (fdL L) (al - D.length) D := ⟨_, rfl⟩
            have hEl : E.length = al := by rw [hE, Gf.enc_len]; omega
            have hElt : ∀ x ∈ E, x < (fdL L).s := by rw [hE]; exact Gf.enc_lt f1 _ hDF
            have hEt : E.take D.length = D := by rw [hE]; exact enc_take _ _
            have hEr : ∀ q, q < E.length - D.length → Gf.ev (fdL L) (Gf.ex (fdL L) (q + (fdL L).b)) E = 0 := fun q hq => by
              rw [hE]; exact Gf.enc_root f1 hDF (by omega)
            rw [← hE] at hv3
            have h4096 : (2 : Nat) ^ widN L ≤ 2 ^ 12 := Nat.pow_le_pow_right (by decide) hw6.2
            have hco : CorOk (widN L) (fdL L) E D.length := ⟨f1, f3, f2, f4, hElt, s1, hD2, by omega, by rw [hEl, f4]; exact f5, by omega, hEr, fun q hq => by
              have h9 : E.getD q 0 = D.getD q 0 := by
                have e9 : E[q]? = (E.take D.length)[q]? := (List.getElem?_take_of_lt hq).symm
                rw [List.getD, e9, hEt]; rfl
              have h8 : D.getD q 0 = D[q] := by rw [List.getD, List.getElem?_eq_getElem hq]; rfl
              rw [h9, h8]
              exact HD2.out.1 _ (List.getElem_mem hq)⟩
            have hwb := azWordBits_any v3 E c L w3 hv3 (fun x hx => by have := hElt x hx; rw [f4] at this; omega) (by omega) L1 L32
            have HCO := Lib.hid hco
            have HEL := Lib.hid (And.intro hEl hEt)
            have HRD3 := Lib.hid (HRD.out.up hb3)
            have hpre : (List.replicate (capN c L % widN L) false).length < widN L := by rw [List.length_replicate]; exact Nat.mod_lt _ (by omega)
            have HPRE := Lib.hid hpre
            have hEl2 : E.length ≤ 1664 := by omega
            clear hsy hb3 hv3 hco hE hEl hElt hEt hEr hDF f1 f2 f3 f4 f5 f6 f7 f8 hal hpre s2 h4096
            go_wp2_with fail
            refine hwb.mono ?_
            rintro e w4 ⟨v4, rfl, hv4, hb4⟩
            have HB4 := Lib.hid (HB3.out.trans (hb4.mono HB3.out.size))
            have HRD4 := Lib.hid (HRD3.out.up hb4)
            have hcr := azCorrected_any v4 c _ E D.length L _ w4 HCO.out HPRE.out hv4 rfl (by
              rw [List.length_append, wbits_len]
              have h1 := HPRE.out
              have h2 : widN L * E.length ≤ 12 * 1664 := Nat.mul_le_mul hw6.2 hEl2
              omega)
            clear hwb hb4 hv4 HB3 HRD3
            go_wp2_with fail
            refine hcr.mono ?_
            rintro e w5 ⟨u, rfl, hu, hb5⟩
            rw [HEL.out.2] at hu
            have HB5 := Lib.hid (HB4.out.trans (hb5.mono HB4.out.size))
            have hun := azUnstuffed_any _ D (widN L) w5 (HRD4.out.up hb5) (fun x hx => by
              have h1 := HD2.out.2 x hx
              have h2 : (2 : Nat) ^ widN L ≤ 2 ^ 12 := Nat.pow_le_pow_right (by decide) hw6.2
              omega) (by omega) (widN_or L)
            have HU := Lib.hid hu
            clear hcr hu hb5 HB4 HRD4
            go_wp2_with fail
            refine hun.mono ?_
            rintro e w6 ⟨v6, rfl, hv6, hb6⟩
            have hsb := sameBits_yes u v6 _ w6 (HU.out.up hb6).rd hv6.rd
            have HB6 := Lib.hid (HB5.out.trans (hb6.mono HB5.out.size))
            clear hun hv6 hb6 HB5 HU
            go_wp2_with fail
            refine hsb.mono ?_
            rintro e w7 ⟨rfl, hb7⟩
            have HB7 := Lib.hid (HB6.out.trans (hb7.mono HB6.out.size))
            clear hsb hb7 HB6
            go_wp2_with fail
            go_ret
            exact ⟨rfl, HB7.out⟩
          · clear hsy hb3
            go_wp2_with fail
            go_ret
            exact ⟨rfl, HB3.out⟩
  · obtain ⟨A, cap, rfl, q1, q2, -⟩ := hs
    rw [vals_len] at q1 ⊢
    unfold maxLen at q2
    clear hl hLy hWd
    go_enter Try.func3, Try.ntmps3
    go_wp2_with fail
    go_ret
    exact ⟨rfl, brf W⟩
end Go.Proofs.Ytpjaehljgpopmaa
