/-
  WALKS: ToStringWithLineSeparator, impl.GridText.
-/
import Derived.Test.YtbfkjfgjeaofpaaTe1
namespace Go.Proofs.Ytbfkjfgjeaofpaa
open Go.RowKit

theorem run_mk0 {P : Program} (t e : TypeId) (i : TypeInfo) (z : Value) (bytes : Nat) (ht : P.underlying t = some (.slice e)) (hi : P.info? e = some i) (hz : i.zero = some z) (hs : i.size = 1) (hb : i.bytes = bytes) (hz1 : z.cells = #[z])
    (n : Nat) (hbytes : bytes * n ≤ 281474976710656) (h63 : n ≤ 9223372036854775807) (w : World) :
    (Instr.makeSlice t (.int .i64 0) (.int .i64 (n : Int))).run P w = .ok (.slice (some ⟨w.heap.size, 0, none⟩) 0 n) (w.alloc (.cells (rep n z) e)) := by
  have hb' : (i.bytes : Int) * (n : Int) ≤ 281474976710656 := by
    have h : ((i.bytes * n : Nat) : Int) ≤ 281474976710656 := by rw [hb]; omega
    rwa [Int.natCast_mul] at h
  have h := run_make (P := P) w t e i z ht hi hz .i64 .i64 0 (n : Int) (Int.le_refl _) (by omega) hb' (by omega)
  have h2 : madeCells z.cells (n * 1) = rep n z := by
    rw [hz1]
    unfold rep
    apply Array.ext_getElem?
    intro j
    simp only [madeCells]
    by_cases hj : j < n
    · simp [hj, Nat.mod_one]
    · simp [hj]
  simp only [Int.toNat_natCast, hs, h2] at h
  exact h
theorem own_made {w : World} {g base n : Nat} {e : TypeId} {z : Value} (h : Blk w g e (rep n z)) (hb : base ≤ g) (hn : n ≤ maxLen) : w.ownsRow base e 1 (.slice (some ⟨g, 0, none⟩) 0 n) 0 [] :=
  ⟨rfl, .inr ⟨g, n, _, rfl, hb, h, Nat.zero_le _, hn, by simp [rep], rfl⟩⟩
/-- Bytes as values. -/
def bl (l : List UInt8) : List Value := l.map fun b => Value.int .u8 b.toNat
theorem bl_of (s : ByteArray) : bytesOf s = bl s.data.toList := rfl
theorem bl_ofL (l : List UInt8) : bytesOf (ofL l) = bl l := by rw [bl_of, ofL_data]
theorem bl_len (l : List UInt8) : (bl l).length = l.length := by simp [bl]
theorem bl_app (a b : List UInt8) : bl (a ++ b) = bl a ++ bl b := by simp [bl]
theorem bl_one (l : List UInt8) : ∀ u ∈ bl l, u.oneCell' = true := fun u hu => by
  simp only [bl, List.mem_map] at hu
  obtain ⟨x, _, rfl⟩ := hu
  rfl
theorem rowsF_snoc (W H : Nat) (f : Nat → Nat → Bool) : rowsF W (H + 1) f = rowsF W H f ++ [rowF W f H] := by simp [rowsF, rowF, List.range_succ]
theorem rowF_snoc (W y : Nat) (f : Nat → Nat → Bool) : rowF (W + 1) f y = rowF W f y ++ [f W y] := by simp [rowF, List.range_succ]
theorem rowsF_row (W H : Nat) (f : Nat → Nat → Bool) : ∀ r ∈ rowsF W H f, r.length = W := by
  intro r hr
  simp only [rowsF, List.mem_map] at hr
  obtain ⟨y, _, rfl⟩ := hr
  simp
theorem bytesRd {w : World} {B : Nat} {v : Value} {s : ByteArray} (h : Rd w B v (bytesOf s)) : Rd w B v (bl s.data.toList) := h

set_option maxRecDepth 100000 in
set_option maxHeartbeats 1000000 in
/-- ToStringWithLineSeparator. -/
theorem toText_any (p g W H : Nat) (f : Nat → Nat → Bool) (s u n : ByteArray) (w : World) (hm : MatAt w p g W H f) (hs : s.size ≤ 100) (hu : u.size ≤ 100) (hn : n.size ≤ 100) (hW4 : W ≤ 4096) (hH4 : H ≤ 4096) :
    Calls Try.prog 28 #[.pointer (some ⟨p, 0, none⟩), .string s, .string u, .string n] w fun e w' => e = .returned (.string (ofL (textL s u n (rowsF W H f)))) ∧ Below w.heap.size w w' := by
  obtain ⟨i0, hi0, hz0, hz1, hz2⟩ := info_parts info_u8
  obtain ⟨v1, w1, r1, hv1, hb1⟩ := conv_any (P := Try.prog) w 9 24 5 s Try.underlying9 Try.underlying24 Try.underlying5 (by unfold maxLen; omega)
  obtain ⟨v2, w2, r2, hv2, hb2⟩ := conv_any (P := Try.prog) w1 9 24 5 u Try.underlying9 Try.underlying24 Try.underlying5 (by unfold maxLen; omega)
  obtain ⟨v3, w3, r3, hv3, hb3⟩ := conv_any (P := Try.prog) w2 9 24 5 n Try.underlying9 Try.underlying24 Try.underlying5 (by unfold maxLen; omega)
  have hb13 := bup (bup hb1 hb2) hb3
  have HM3 := Lib.hid (hm.up hb13)
  have H1 := Lib.hid (bytesRd ((hv1.up hb2).up hb3)); have H2 := Lib.hid (bytesRd (hv2.up hb3)); have H3 := Lib.hid (bytesRd hv3)
  have HB13 := Lib.hid hb13
  have HS : Hid (s.data.toList.length ≤ 100 ∧ u.data.toList.length ≤ 100 ∧ n.data.toList.length ≤ 100) := Lib.hid ⟨by simpa using hs, by simpa using hu, by simpa using hn⟩
  have c0 : w3.cell? ⟨p, 0, none⟩ = some (.int .i64 W) := by obtain ⟨ws, h, _⟩ := HM3.out; rw [h.head.cell]; rfl
  have c1 : w3.cell? ⟨p, 1, none⟩ = some (.int .i64 H) := by obtain ⟨ws, h, _⟩ := HM3.out; rw [h.head.cell]; rfl
  clear hv1 hv2 hv3 hb1 hb2 hb3 hb13 hm
  have hlt : ∃ L : Nat, L ≤ (100 * 4096 + 100) * 4096 ∧ ∀ k, (k = s.size ∧ ¬ s.size ≤ u.size) ∨ (k = u.size ∧ s.size ≤ u.size) → (H : Int) * ((n.size : Int) + (W : Int) * (k : Int)) = (L : Int) := by
    by_cases hsu : s.size ≤ u.size
    · refine ⟨H * (n.size + W * u.size), ?_, fun k hk => ?_⟩
      · rw [Nat.mul_comm]; refine Nat.mul_le_mul ?_ hH4
        have : W * u.size ≤ 4096 * 100 := Nat.mul_le_mul hW4 hu
        omega
      · obtain ⟨rfl, _⟩ | ⟨rfl, _⟩ := hk
        · omega
        · simp
    · refine ⟨H * (n.size + W * s.size), ?_, fun k hk => ?_⟩
      · rw [Nat.mul_comm]; refine Nat.mul_le_mul ?_ hH4
        have : W * s.size ≤ 4096 * 100 := Nat.mul_le_mul hW4 hs
        omega
      · obtain ⟨rfl, _⟩ | ⟨rfl, _⟩ := hk
        · simp
        · omega
  obtain ⟨L, hL, hLe⟩ := hlt
  have hmk := fun a => run_mk0 (P := Try.prog) 24 5 i0 (.int .u8 0) 1 Try.underlying24 hi0 hz0 hz1 hz2 rfl L (by omega) (by omega) a
  have hown0 : ∀ x, Hid (Blk x w3.heap.size 5 (rep L (.int .u8 0))) → x.ownsRow w3.heap.size 5 1 (.slice (some ⟨w3.heap.size, 0, none⟩) 0 L) 0 [] := fun x hx => own_made hx.out (Nat.le_refl _) (by unfold maxLen; omega)
  have HO0 := Lib.hid (hown0 _ (Lib.hid (Blk.fresh w3 _ _))); clear hown0
  have HB0 := Lib.hid (bal (brf w3) (.cells (rep L (.int .u8 0)) 5))
  obtain ⟨w4, hw4⟩ : ∃ w4, w4 = w3.alloc (.cells (rep L (.int .u8 0)) 5) := ⟨_, rfl⟩
  rw [← hw4] at HO0 HB0
  have HW4 := Lib.hid hw4.symm; clear hw4
  have eW1 : (W : Int) * (s.size : Int) = ((W * s.size : Nat) : Int) := by simp
  have eW2 : (W : Int) * (u.size : Int) = ((W * u.size : Nat) : Int) := by simp
  have hk1 : W * s.size ≤ 4096 * 100 := Nat.mul_le_mul hW4 hs
  have hk2 : W * u.size ≤ 4096 * 100 := Nat.mul_le_mul hW4 hu
  have hE1 : ¬ s.size ≤ u.size → (H : Int) * ((n.size : Int) + ((W * s.size : Nat) : Int)) = (L : Int) := fun h => by rw [← eW1]; exact hLe _ (.inl ⟨rfl, h⟩)
  have hE2 : s.size ≤ u.size → (H : Int) * ((n.size : Int) + ((W * u.size : Nat) : Int)) = (L : Int) := fun h => by rw [← eW2]; exact hLe _ (.inr ⟨rfl, h⟩)
  clear hLe
  have HE := Lib.hid (And.intro hE1 hE2); clear hE1 hE2
  generalize W * s.size = q1 at *
  generalize W * u.size = q2 at *
  have key : ∀ (i : Nat), i = i := fun _ => rfl
  clear key
  by_cases hsu : s.size ≤ u.size
  · have hE := HE.out.2 hsu
    have hdec : decide (u.size < s.size) = false := by simp; omega
    go_enter Try.func28, Try.ntmps28
    go_wp2_with fail
    rw [HW4.out]
    clear hmk c0 c1 r1 r2 r3 hE HE eW1 eW2
    have c0 : ∀ wr, Below w3.heap.size w3 wr → wr.cell? ⟨p, 0, none⟩ = some (.int .i64 W) := fun wr hb => by obtain ⟨ws, h, _⟩ := (HM3.out.up hb); rw [h.head.cell]; rfl
    have c1 : ∀ wr, Below w3.heap.size w3 wr → wr.cell? ⟨p, 1, none⟩ = some (.int .i64 H) := fun wr hb => by obtain ⟨ws, h, _⟩ := (HM3.out.up hb); rw [h.head.cell]; rfl
    have HC := Lib.hid (And.intro c0 c1); clear c0 c1
    go_loopw [13, 14] (fun v yv wr => ∃ (y N : Nat), y ≤ H ∧ yv = .int .i64 y ∧ N ≤ (100 * W + 100) * y ∧ Hid (N = (textL s u n (rowsF W y f)).length) ∧ Hid (wr.ownsRow w3.heap.size 5 1 v N (bl (textL s u n (rowsF W y f)))) ∧ Hid (Below w3.heap.size w3 wr)) (fun _ yv _ => H - (intOf yv).toNat)
    case atStart => exact ⟨0, 0, Nat.zero_le _, rfl, by omega, Lib.hid rfl, HO0, HB0⟩
    case round =>
      clear HO0 HB0 HW4
      obtain ⟨y, N, hy, rfl, hN, HN, HO, HB⟩ := hrel
      have c1 := HC.out.2 _ HB.out
      have hbig : (100 * W + 100) * y ≤ (100 * 4096 + 100) * 4096 := Nat.mul_le_mul (by omega) (by omega)
      have hbig2 : (100 * W + 100) * (y + 1) = (100 * W + 100) * y + (100 * W + 100) := by rw [Nat.mul_add, Nat.mul_one]
      have HBig := Lib.hid (And.intro hN hbig2); clear hN hbig2
      have hN : N ≤ (100 * 4096 + 100) * 4096 := Nat.le_trans HBig.out.1 hbig
      by_cases hlt : y < H
      · have hpre := textL_snoc s u n (rowsF W y f) (rowF W f y)
        rw [← rowsF_snoc] at hpre
        have HPre := Lib.hid hpre; clear hpre
        generalize textL s u n (rowsF W y f) = pre at *
        obtain ⟨wo, rfl⟩ : ∃ wo : World, wo = wr := ⟨_, rfl⟩
        go_wp2_with fail
        clear c1
        go_loopw [13, 15] (fun v xv wi => ∃ (x M : Nat), x ≤ W ∧ xv = .int .i64 x ∧ M ≤ N + 100 * x ∧ Hid (M = (pre ++ toks s u (rowF x f y)).length) ∧ Hid (wi.ownsRow w3.heap.size 5 1 v M (bl (pre ++ toks s u (rowF x f y)))) ∧ Hid (Below w3.heap.size w3 wi)) (fun _ xv _ => W - (intOf xv).toNat)
        case atStart => exact ⟨0, N, Nat.zero_le _, rfl, by omega, Lib.hid (by simp [toks, rowF, HN.out]), by simpa [toks, rowF] using HO, HB⟩
        case round =>
          rename World => wi
          clear HO HB HN
          obtain ⟨x, M, hx, rfl, hM, HN, HO, HB⟩ := hrel
          have c0 := HC.out.1 _ HB.out
          by_cases hxl : x < W
          · have hsn := toks_snoc s u (rowF x f y) (f x y)
            rw [← rowF_snoc] at hsn
            have hgt := matGet_any p g W H x y f wi (HM3.out.up HB.out) hxl hlt hW4 hH4
            generalize toks s u (rowF x f y) = mid at *
            rcases hfx : f x y with _ | _
            · rw [hfx] at hsn hgt
              have HSn := Lib.hid hsn; have HF := Lib.hid hfx; clear hsn hfx
              go_wp2_with fail
              refine hgt.mono ?_
              rintro e wi ⟨rfl, rfl⟩
              go_wp2_with (with_reducible refine stop_at (o := ⟨some 79, _, _, _, _, _⟩) ?_)
              refine Lib.hid ?_
              refine list_app_rd _ rfl _ _ 24 rfl w3.heap.size 5 i0 _ 1 Try.underlying24 hi0 hz0 hz1 hz2 rfl _ M (bl (pre ++ mid)) rfl HO.out _ _ (bl u.data.toList) rfl (H2.out.below HB.out) (bl_one _) (by rw [bl_len]; unfold maxLen; have := HS.out; omega) (by rw [bl_len]; have := HS.out; omega) HB.out.size ?_
              intro v1 w2 ho1 hg1
              have HO2 : Hid (w2.ownsRow w3.heap.size 5 1 v1 (M + (bl u.data.toList).length) (bl (pre ++ toks s u (rowF (x + 1) f y)))) := Lib.hid (by rw [HSn.out, ← List.append_assoc, bl_app]; exact ho1)
              have HB2 := Lib.hid (below_grown HB.out hg1 HO.out HB.out.size)
              have HN2 : Hid (M + (bl u.data.toList).length = (pre ++ toks s u (rowF (x + 1) f y)).length) := Lib.hid (by rw [HSn.out, ← List.append_assoc, List.length_append, bl_len, HN.out]; rfl)
              have hM2 : M + (bl u.data.toList).length ≤ N + 100 * (x + 1) := by rw [bl_len]; have := HS.out; omega
              clear ho1 hg1 HO HB HN c0
              go_wp2
              go_roundw
              case rel => exact ⟨x + 1, _, by omega, by go_num, hM2, HN2, HO2, HB2⟩
              case measure => simp [intOf]; omega
            · rw [hfx] at hsn hgt
              have HSn := Lib.hid hsn; have HF := Lib.hid hfx; clear hsn hfx
              go_wp2_with fail
              refine hgt.mono ?_
              rintro e wi ⟨rfl, rfl⟩
              go_wp2_with (with_reducible refine stop_at (o := ⟨some 79, _, _, _, _, _⟩) ?_)
              refine Lib.hid ?_
              refine list_app_rd _ rfl _ _ 24 rfl w3.heap.size 5 i0 _ 1 Try.underlying24 hi0 hz0 hz1 hz2 rfl _ M (bl (pre ++ mid)) rfl HO.out _ _ (bl s.data.toList) rfl (H1.out.below HB.out) (bl_one _) (by rw [bl_len]; unfold maxLen; have := HS.out; omega) (by rw [bl_len]; have := HS.out; omega) HB.out.size ?_
              intro v1 w2 ho1 hg1
              have HO2 : Hid (w2.ownsRow w3.heap.size 5 1 v1 (M + (bl s.data.toList).length) (bl (pre ++ toks s u (rowF (x + 1) f y)))) := Lib.hid (by rw [HSn.out, ← List.append_assoc, bl_app]; exact ho1)
              have HB2 := Lib.hid (below_grown HB.out hg1 HO.out HB.out.size)
              have HN2 : Hid (M + (bl s.data.toList).length = (pre ++ toks s u (rowF (x + 1) f y)).length) := Lib.hid (by rw [HSn.out, ← List.append_assoc, List.length_append, bl_len, HN.out]; rfl)
              have hM2 : M + (bl s.data.toList).length ≤ N + 100 * (x + 1) := by rw [bl_len]; have := HS.out; omega
              clear ho1 hg1 HO HB HN c0
              go_wp2
              go_roundw
              case rel => exact ⟨x + 1, _, by omega, by go_num, hM2, HN2, HO2, HB2⟩
              case measure => simp [intOf]; omega
          · obtain rfl : x = W := by omega
            go_wp2_with (with_reducible refine stop_at (o := ⟨some 82, _, _, _, _, _⟩) ?_)
            refine Lib.hid ?_
            refine list_app_rd _ rfl _ _ 24 rfl w3.heap.size 5 i0 _ 1 Try.underlying24 hi0 hz0 hz1 hz2 rfl _ M (bl (pre ++ toks s u (rowF x f y))) rfl HO.out _ _ (bl n.data.toList) rfl (H3.out.below HB.out) (bl_one _) (by rw [bl_len]; unfold maxLen; have := HS.out; omega) (by rw [bl_len]; have := HS.out; omega) HB.out.size ?_
            intro v1 w2 ho1 hg1
            have HO2 : Hid (w2.ownsRow w3.heap.size 5 1 v1 (M + (bl n.data.toList).length) (bl (textL s u n (rowsF x (y + 1) f)))) := Lib.hid (by rw [HPre.out, ← List.append_assoc, bl_app]; exact ho1)
            have HB2 := Lib.hid (below_grown HB.out hg1 HO.out HB.out.size)
            have HN2 : Hid (M + (bl n.data.toList).length = (textL s u n (rowsF x (y + 1) f)).length) := Lib.hid (by rw [HPre.out, ← List.append_assoc, List.length_append, bl_len, HN.out])
            have hM2 : M + (bl n.data.toList).length ≤ (100 * x + 100) * (y + 1) := by rw [bl_len, HBig.out.2]; have := HS.out; have := HBig.out.1; omega
            clear ho1 hg1 HO HB HN c0
            go_wp2
            go_roundw
            case rel => exact ⟨y + 1, _, by omega, by go_num, hM2, HN2, HO2, HB2⟩
            case measure => simp [intOf]; omega
      · obtain rfl : y = H := by omega
        have hcs := conv_str (P := Try.prog) wr wr.heap.size 24 5 9 Try.underlying24 Try.underlying5 Try.underlying9 _ (ofL (textL s u n (rowsF W y f))) (by rw [bl_ofL]; exact Rd.of_own HO.out)
        go_wp2
        go_ret
        exact ⟨rfl, bup HB13.out HB.out⟩
  · have hE := HE.out.1 hsu
    have hdec : decide (u.size < s.size) = true := by simp; omega
    go_enter Try.func28, Try.ntmps28
    go_wp2_with fail
    rw [HW4.out]
    clear hmk c0 c1 r1 r2 r3 hE HE eW1 eW2
    have c0 : ∀ wr, Below w3.heap.size w3 wr → wr.cell? ⟨p, 0, none⟩ = some (.int .i64 W) := fun wr hb => by obtain ⟨ws, h, _⟩ := (HM3.out.up hb); rw [h.head.cell]; rfl
    have c1 : ∀ wr, Below w3.heap.size w3 wr → wr.cell? ⟨p, 1, none⟩ = some (.int .i64 H) := fun wr hb => by obtain ⟨ws, h, _⟩ := (HM3.out.up hb); rw [h.head.cell]; rfl
    have HC := Lib.hid (And.intro c0 c1); clear c0 c1
    go_loopw [13, 14] (fun v yv wr => ∃ (y N : Nat), y ≤ H ∧ yv = .int .i64 y ∧ N ≤ (100 * W + 100) * y ∧ Hid (N = (textL s u n (rowsF W y f)).length) ∧ Hid (wr.ownsRow w3.heap.size 5 1 v N (bl (textL s u n (rowsF W y f)))) ∧ Hid (Below w3.heap.size w3 wr)) (fun _ yv _ => H - (intOf yv).toNat)
    case atStart => exact ⟨0, 0, Nat.zero_le _, rfl, by omega, Lib.hid rfl, HO0, HB0⟩
    case round =>
      clear HO0 HB0 HW4
      obtain ⟨y, N, hy, rfl, hN, HN, HO, HB⟩ := hrel
      have c1 := HC.out.2 _ HB.out
      have hbig : (100 * W + 100) * y ≤ (100 * 4096 + 100) * 4096 := Nat.mul_le_mul (by omega) (by omega)
      have hbig2 : (100 * W + 100) * (y + 1) = (100 * W + 100) * y + (100 * W + 100) := by rw [Nat.mul_add, Nat.mul_one]
      have HBig := Lib.hid (And.intro hN hbig2); clear hN hbig2
      have hN : N ≤ (100 * 4096 + 100) * 4096 := Nat.le_trans HBig.out.1 hbig
      by_cases hlt : y < H
      · have hpre := textL_snoc s u n (rowsF W y f) (rowF W f y)
        rw [← rowsF_snoc] at hpre
        have HPre := Lib.hid hpre; clear hpre
        generalize textL s u n (rowsF W y f) = pre at *
        obtain ⟨wo, rfl⟩ : ∃ wo : World, wo = wr := ⟨_, rfl⟩
        go_wp2_with fail
        clear c1
        go_loopw [13, 15] (fun v xv wi => ∃ (x M : Nat), x ≤ W ∧ xv = .int .i64 x ∧ M ≤ N + 100 * x ∧ Hid (M = (pre ++ toks s u (rowF x f y)).length) ∧ Hid (wi.ownsRow w3.heap.size 5 1 v M (bl (pre ++ toks s u (rowF x f y)))) ∧ Hid (Below w3.heap.size w3 wi)) (fun _ xv _ => W - (intOf xv).toNat)
        case atStart => exact ⟨0, N, Nat.zero_le _, rfl, by omega, Lib.hid (by simp [toks, rowF, HN.out]), by simpa [toks, rowF] using HO, HB⟩
        case round =>
          rename World => wi
          clear HO HB HN
          obtain ⟨x, M, hx, rfl, hM, HN, HO, HB⟩ := hrel
          have c0 := HC.out.1 _ HB.out
          by_cases hxl : x < W
          · have hsn := toks_snoc s u (rowF x f y) (f x y)
            rw [← rowF_snoc] at hsn
            have hgt := matGet_any p g W H x y f wi (HM3.out.up HB.out) hxl hlt hW4 hH4
            generalize toks s u (rowF x f y) = mid at *
            rcases hfx : f x y with _ | _
            · rw [hfx] at hsn hgt
              have HSn := Lib.hid hsn; have HF := Lib.hid hfx; clear hsn hfx
              go_wp2_with fail
              refine hgt.mono ?_
              rintro e wi ⟨rfl, rfl⟩
              go_wp2_with (with_reducible refine stop_at (o := ⟨some 79, _, _, _, _, _⟩) ?_)
              refine Lib.hid ?_
              refine list_app_rd _ rfl _ _ 24 rfl w3.heap.size 5 i0 _ 1 Try.underlying24 hi0 hz0 hz1 hz2 rfl _ M (bl (pre ++ mid)) rfl HO.out _ _ (bl u.data.toList) rfl (H2.out.below HB.out) (bl_one _) (by rw [bl_len]; unfold maxLen; have := HS.out; omega) (by rw [bl_len]; have := HS.out; omega) HB.out.size ?_
              intro v1 w2 ho1 hg1
              have HO2 : Hid (w2.ownsRow w3.heap.size 5 1 v1 (M + (bl u.data.toList).length) (bl (pre ++ toks s u (rowF (x + 1) f y)))) := Lib.hid (by rw [HSn.out, ← List.append_assoc, bl_app]; exact ho1)
              have HB2 := Lib.hid (below_grown HB.out hg1 HO.out HB.out.size)
              have HN2 : Hid (M + (bl u.data.toList).length = (pre ++ toks s u (rowF (x + 1) f y)).length) := Lib.hid (by rw [HSn.out, ← List.append_assoc, List.length_append, bl_len, HN.out]; rfl)
              have hM2 : M + (bl u.data.toList).length ≤ N + 100 * (x + 1) := by rw [bl_len]; have := HS.out; omega
              clear ho1 hg1 HO HB HN c0
              go_wp2
              go_roundw
              case rel => exact ⟨x + 1, _, by omega, by go_num, hM2, HN2, HO2, HB2⟩
              case measure => simp [intOf]; omega
            · rw [hfx] at hsn hgt
              have HSn := Lib.hid hsn; have HF := Lib.hid hfx; clear hsn hfx
              go_wp2_with fail
              refine hgt.mono ?_
              rintro e wi ⟨rfl, rfl⟩
              go_wp2_with (with_reducible refine stop_at (o := ⟨some 79, _, _, _, _, _⟩) ?_)
              refine Lib.hid ?_
              refine list_app_rd _ rfl _ _ 24 rfl w3.heap.size 5 i0 _ 1 Try.underlying24 hi0 hz0 hz1 hz2 rfl _ M (bl (pre ++ mid)) rfl HO.out _ _ (bl s.data.toList) rfl (H1.out.below HB.out) (bl_one _) (by rw [bl_len]; unfold maxLen; have := HS.out; omega) (by rw [bl_len]; have := HS.out; omega) HB.out.size ?_
              intro v1 w2 ho1 hg1
              have HO2 : Hid (w2.ownsRow w3.heap.size 5 1 v1 (M + (bl s.data.toList).length) (bl (pre ++ toks s u (rowF (x + 1) f y)))) := Lib.hid (by rw [HSn.out, ← List.append_assoc, bl_app]; exact ho1)
              have HB2 := Lib.hid (below_grown HB.out hg1 HO.out HB.out.size)
              have HN2 : Hid (M + (bl s.data.toList).length = (pre ++ toks s u (rowF (x + 1) f y)).length) := Lib.hid (by rw [HSn.out, ← List.append_assoc, List.length_append, bl_len, HN.out]; rfl)
              have hM2 : M + (bl s.data.toList).length ≤ N + 100 * (x + 1) := by rw [bl_len]; have := HS.out; omega
              clear ho1 hg1 HO HB HN c0
              go_wp2
              go_roundw
              case rel => exact ⟨x + 1, _, by omega, by go_num, hM2, HN2, HO2, HB2⟩
              case measure => simp [intOf]; omega
          · obtain rfl : x = W := by omega
            go_wp2_with (with_reducible refine stop_at (o := ⟨some 82, _, _, _, _, _⟩) ?_)
            refine Lib.hid ?_
            refine list_app_rd _ rfl _ _ 24 rfl w3.heap.size 5 i0 _ 1 Try.underlying24 hi0 hz0 hz1 hz2 rfl _ M (bl (pre ++ toks s u (rowF x f y))) rfl HO.out _ _ (bl n.data.toList) rfl (H3.out.below HB.out) (bl_one _) (by rw [bl_len]; unfold maxLen; have := HS.out; omega) (by rw [bl_len]; have := HS.out; omega) HB.out.size ?_
            intro v1 w2 ho1 hg1
            have HO2 : Hid (w2.ownsRow w3.heap.size 5 1 v1 (M + (bl n.data.toList).length) (bl (textL s u n (rowsF x (y + 1) f)))) := Lib.hid (by rw [HPre.out, ← List.append_assoc, bl_app]; exact ho1)
            have HB2 := Lib.hid (below_grown HB.out hg1 HO.out HB.out.size)
            have HN2 : Hid (M + (bl n.data.toList).length = (textL s u n (rowsF x (y + 1) f)).length) := Lib.hid (by rw [HPre.out, ← List.append_assoc, List.length_append, bl_len, HN.out])
            have hM2 : M + (bl n.data.toList).length ≤ (100 * x + 100) * (y + 1) := by rw [bl_len, HBig.out.2]; have := HS.out; have := HBig.out.1; omega
            clear ho1 hg1 HO HB HN c0
            go_wp2
            go_roundw
            case rel => exact ⟨y + 1, _, by omega, by go_num, hM2, HN2, HO2, HB2⟩
            case measure => simp [intOf]; omega
      · obtain rfl : y = H := by omega
        have hcs := conv_str (P := Try.prog) wr wr.heap.size 24 5 9 Try.underlying24 Try.underlying5 Try.underlying9 _ (ofL (textL s u n (rowsF W y f))) (by rw [bl_ofL]; exact Rd.of_own HO.out)
        go_wp2
        go_ret
        exact ⟨rfl, bup HB13.out HB.out⟩

/-- impl.GridText. -/
theorem gridText_any (W H : Nat) (v : Value) (rows : List (List Bool)) (s u n : ByteArray) (w : World) (hv : RowsT w v rows) (hH : rows.length = H) (hr : ∀ r ∈ rows, r.length = W) (hW1 : 1 ≤ W) (hH1 : 1 ≤ H) (hW4 : W ≤ 4096) (hH4 : H ≤ 4096)
    (hs : s.size ≤ 100) (hu : u.size ≤ 100) (hn : n.size ≤ 100) :
    Calls Try.prog 13 #[v, .string s, .string u, .string n] w fun e w' => e = .returned (.string (ofL (textL s u n rows))) ∧ Below w.heap.size w w' := by
  have HR := Lib.hid (rowsF_bitOf W H rows hH hr)
  go_enter Try.func13, Try.ntmps13
  go_wp2_with fail
  refine (grid_any W H v rows _ hv hH hr hW1 hH1 hW4 hH4).mono ?_
  rintro e w1 ⟨p, g, rfl, hm, hp, hg, hb1⟩
  have HB := Lib.hid hb1; clear hb1 hv hr hH
  go_wp2_with fail
  refine (toText_any p g W H _ s u n _ hm hs hu hn hW4 hH4).mono ?_
  rintro e w2 ⟨rfl, hb2⟩
  have HB2 := Lib.hid (bup HB.out hb2)
  clear hb2 hm
  go_wp2
  go_ret
  exact ⟨by rw [HR.out]; rfl, HB2.out⟩
end Go.Proofs.Ytbfkjfgjeaofpaa
