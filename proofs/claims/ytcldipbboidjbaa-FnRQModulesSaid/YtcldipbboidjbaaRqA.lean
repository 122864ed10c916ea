/-
  WALKS: a BitMatrix whose words are 0 beyond its width: Set, NewBitMatrix, ParseBoolMapToBitMatrix. PLAIN: words of a matrix that are 0. WALK: BitMatrix.GetTopLeftOnBit. PLAIN: the words behind the last dark pixel are 0. WALK: BitMatrix.GetBottomRightOnBit. WALK: BitMatrix.GetTopLeftOnBit and GetBottomRightOnBit of a blank matrix: nil. WALK: impl.grid, with the words 0 beyond the width.
-/
import Derived.Test.YtcldipbboidjbaaRo3
namespace Go.Proofs.Ytcldipbboidjbaa
open Go.RowKit

/-- As MatAt, and the bits beyond the width are 0. -/
def MatZ (w : World) (p g W H : Nat) (f : Nat → Nat → Bool) : Prop := ∃ ws, MatW w p g W H ws ∧ ∀ x y, x / 32 < (W + 31) / 32 → y < H → bitM ws ((W + 31) / 32) x y = (decide (x < W) && f x y)
theorem MatZ.up {w w' : World} {p g W H : Nat} {f : Nat → Nat → Bool} (h : MatZ w p g W H f) (hb : Below w.heap.size w w') : MatZ w' p g W H f := by
  obtain ⟨ws, h1, h2⟩ := h; exact ⟨ws, h1.up hb, h2⟩
theorem MatZ.at_ {w : World} {p g W H : Nat} {f : Nat → Nat → Bool} (h : MatZ w p g W H f) : MatAt w p g W H f := by
  obtain ⟨ws, h1, h2⟩ := h; exact ⟨ws, h1, fun x y hx hy => by rw [h2 x y (by omega) hy, decide_eq_true hx, Bool.true_and]⟩
theorem MatZ.congr {w : World} {p g W H : Nat} {f f' : Nat → Nat → Bool} (h : MatZ w p g W H f) (he : ∀ x y, x < W → y < H → f x y = f' x y) : MatZ w p g W H f' := by
  obtain ⟨ws, h1, h2⟩ := h
  refine ⟨ws, h1, fun x y hx hy => ?_⟩
  rw [h2 x y hx hy]
  by_cases hxw : x < W
  · rw [he x y hxw hy]
  · rw [decide_eq_false hxw, Bool.false_and, Bool.false_and]

theorem matSetZ_any (p g W H x y : Nat) (f : Nat → Nat → Bool) (w : World) (h : MatZ w p g W H f) (hx : x < W) (hy : y < H) (hW : W ≤ 4096) (hH : H ≤ 4096) :
    Calls Try.prog 80 #[.pointer (some ⟨p, 0, none⟩), .int .i64 x, .int .i64 y] w fun e w' => ∃ i u, e = .returned (.tuple #[]) ∧ w' = w.setCell ⟨g, i, none⟩ u ∧
      MatZ w' p g W H (fun a b => f a b || (decide (a = x) && decide (b = y))) := by
  obtain ⟨ws, h, hf⟩ := h
  have hr : x / 32 < (W + 31) / 32 := by omega
  have hpl := place_lt hr hy
  rw [← h.len] at hpl
  have c0 : w.cell? ⟨p, 2, none⟩ = some (.int .i64 ((W + 31) / 32 : Nat)) := by rw [h.head.cell]; rfl
  have c1 : w.cell? ⟨p, 3, none⟩ = some (.slice (some ⟨g, 0, none⟩) ws.length ws.length) := by rw [h.head.cell]; rfl
  have c4 : w.cell? ⟨g, y * ((W + 31) / 32) + x / 32, none⟩ = some (.int .u32 ((ws[y * ((W + 31) / 32) + x / 32] : Nat) : Int)) := by rw [h.rows.cell, wv_at _ _ hpl]
  have f4 := h.rows.frozen (y * ((W + 31) / 32) + x / 32)
  have hv := h.lt _ (List.getElem_mem hpl)
  have hlen : ws.length ≤ 129 * 4096 := by rw [h.len]; exact Nat.mul_le_mul (by omega) hH
  have hg0 : ws.getD (y * ((W + 31) / 32) + x / 32) 0 = ws[y * ((W + 31) / 32) + x / 32] := by rw [List.getD, List.getElem?_eq_getElem hpl]; rfl
  have hM : MatZ (w.setCell ⟨g, y * ((W + 31) / 32) + x / 32, none⟩ (.int .u32 ((ws[y * ((W + 31) / 32) + x / 32] ||| 2 ^ (x % 32) : Nat) : Int))) p g W H (fun a b => f a b || (decide (a = x) && decide (b = y))) := by
    refine ⟨setM ws ((W + 31) / 32) x y, ⟨by rw [setM_len]; exact h.head.far h.apart _, ?_, setM_lt h.lt, by rw [setM_len]; exact h.len, h.apart⟩, fun a b ha hb => ?_⟩
    · unfold setM
      rw [← wv_set, hg0]
      exact h.rows.put _ _
    · rw [setM_bit ws _ x y a b H h.len hr hy ha, hf a b ha hb]
      by_cases hab : a = x ∧ b = y
      · obtain ⟨rfl, rfl⟩ := hab
        rw [decide_eq_true hx]; simp
      · have e : (decide (a = x) && decide (b = y)) = false := by rw [Bool.eq_false_iff]; simpa using hab
        rw [e, Bool.or_false]; show _ = (_ && (f a b || (decide (a = x) && decide (b = y)))); rw [e, Bool.or_false]
  have HM := Lib.hid hM
  clear hM hg0 h hf
  generalize ws[y * ((W + 31) / 32) + x / 32] = v at *
  generalize ws.length = n at *
  have hrs : (W + 31) / 32 ≤ 129 := by omega
  generalize (W + 31) / 32 = rs at *
  have e1 : (y : Int) * (rs : Int) = ((y * rs : Nat) : Int) := by simp
  generalize y * rs = m at *
  have e2 : bits .or .u32 (v : Int) ((2 : Int) ^ (x % 32) % 4294967296) = ((v ||| 2 ^ (x % 32) : Nat) : Int) := by
    rw [pow32 _ (Nat.mod_lt _ (by decide))]
    exact u32_or _ _ hv (Nat.pow_lt_pow_right (n := 32) (by decide) (Nat.mod_lt _ (by decide)))
  generalize (v ||| 2 ^ (x % 32)) = z at *
  go_enter Try.func80, Try.ntmps80
  go_wp2
  refine bodyPost_end (results_none rfl _ _ _) rfl ?_
  exact ⟨_, _, rfl, rfl, HM.out⟩

set_option maxRecDepth 100000 in
theorem newMatZ_any (W H : Nat) (w : World) (hW1 : 1 ≤ W) (hH1 : 1 ≤ H) (hW : W ≤ 4096) (hH : H ≤ 4096) :
    Calls Try.prog 79 #[.int .i64 W, .int .i64 H] w fun e w' => ∃ p g, e = .returned (.tuple #[.pointer (some ⟨p, 0, none⟩), .nilIface]) ∧ MatZ w' p g W H (fun _ _ => false) ∧ w.heap.size ≤ p ∧ w.heap.size ≤ g ∧ Below w.heap.size w w' := by
  have hrs : (W + 31) / 32 ≤ 129 := by omega
  have hdiv : ((W : Int) + 31) / 32 = (((W + 31) / 32 : Nat) : Int) := by omega
  have hmul : (((W + 31) / 32 : Nat) : Int) * (H : Int) = (((W + 31) / 32 * H : Nat) : Int) := by simp
  have hn : (W + 31) / 32 * H ≤ 129 * 4096 := Nat.mul_le_mul hrs hH
  have hmk := run_mk (P := Try.prog) 169 172 (.int .u32 0) 4 Try.underlying169 (by kernel_rfl) rfl ((W + 31) / 32 * H) (by omega) (by omega) w
  have hl : ((List.replicate ((W + 31) / 32 * H) 0 : List Nat)).length = (W + 31) / 32 * H := List.length_replicate
  have hM : ∀ a, Blk a w.heap.size 172 (wv (List.replicate ((W + 31) / 32 * H) 0)).toArray → ∀ p, p ≠ w.heap.size → Blk a p 171 #[.int .i64 W, .int .i64 H, .int .i64 ((W + 31) / 32 : Nat), .slice (some ⟨w.heap.size, 0, none⟩) ((W + 31) / 32 * H) ((W + 31) / 32 * H)] →
      MatZ a p w.heap.size W H (fun _ _ => false) := fun a h1 p hp h2 =>
    ⟨List.replicate ((W + 31) / 32 * H) 0, ⟨by rw [hl]; exact h2, h1, fun x hx => by rw [List.eq_of_mem_replicate hx]; decide, hl, hp⟩, fun x y _ _ => by rw [bitM_rep]; simp⟩
  have HM := Lib.hid hM; clear hM hl
  rw [wv_rep] at HM
  have hX := Blk.fresh w 172 (rep ((W + 31) / 32 * H) (.int .u32 0))
  have hB := bal (brf w) (.cells (rep ((W + 31) / 32 * H) (.int .u32 0)) 172)
  generalize rep ((W + 31) / 32 * H) (.int .u32 0) = z at *
  generalize (W + 31) / 32 * H = m at *
  generalize (W + 31) / 32 = rs at *
  have HX := Lib.hid (And.intro hX hB); clear hX hB
  go_enter Try.func79, Try.ntmps79
  go_wp2
  go_ret2
  refine ⟨_, _, rfl, HM.out _ (HX.out.1.alloc _) _ ?_ (Blk.fresh' (by simp)), ?_, Nat.le_refl _, bal HX.out.2 _⟩
  · simp
  · simp
set_option maxRecDepth 100000 in
set_option maxHeartbeats 2000000 in
/-- ParseBoolMapToBitMatrix, of rows of one length. -/
theorem parseRowsZ_any (W H : Nat) (v : Value) (rows : List (List Bool)) (w : World) (hv : RowsT w v rows) (hH : rows.length = H) (hr : ∀ r ∈ rows, r.length = W) (hW1 : 1 ≤ W) (hH1 : 1 ≤ H) (hW4 : W ≤ 4096) (hH4 : H ≤ 4096) :
    Calls Try.prog 43 #[v] w fun e w' => ∃ p g, e = .returned (.tuple #[.pointer (some ⟨p, 0, none⟩), .nilIface]) ∧ MatZ w' p g W H (bitOf rows) ∧ w.heap.size ≤ p ∧ w.heap.size ≤ g ∧ Below w.heap.size w w' := by
  obtain ⟨b, o, cap, rfl, h1, h2, HR⟩ := hv.at_ (by omega)
  clear hv
  rw [hH] at HR h1 ⊢
  have hrl : ∀ i, i < H → (rows.getD i []).length = W := fun i hi => by
    rw [List.getD, List.getElem?_eq_getElem (by omega), Option.getD_some]; exact hr _ (List.getElem_mem _)
  have HRL := Lib.hid hrl; clear hrl hr
  have HH := Lib.hid hH; clear hH
  obtain ⟨u0, hc0, hu0⟩ := HR.out 0 (by omega)
  obtain ⟨b0, o0, c0', rfl, _, _, _⟩ := row_at hu0 (by rw [HRL.out 0 (by omega)]; omega)
  rw [HRL.out 0 (by omega), Nat.add_zero] at hc0
  clear hu0
  go_enter Try.func43, Try.ntmps43
  go_wp2_with fail
  refine (newMatZ_any W H _ hW1 hH1 hW4 hH4).mono ?_
  rintro e w1 ⟨p, g, rfl, hm, hp, hg, hb1⟩
  have HM := Lib.hid hm; have HB := Lib.hid hb1; clear hm hb1 hc0
  go_wp2_with fail
  go_loopw [8] (fun yv wr => ∃ (y : Nat), y ≤ H ∧ yv = .int .i64 y ∧ Hid (MatZ wr p g W H (fun a c => decide (c < y) && bitOf rows a c)) ∧ Hid (Below w.heap.size w wr)) (fun yv _ => H - (intOf yv).toNat)
  case atStart => exact ⟨0, Nat.zero_le _, rfl, Lib.hid (HM.out.congr (fun x y _ _ => by simp)), HB⟩
  case round =>
    clear HM HB
    obtain ⟨y, hy, rfl, HM, HB⟩ := hrel
    by_cases hlt : y < H
    · obtain ⟨u, hc, hu⟩ := HR.out y hlt
      obtain ⟨by_, oy, cy, rfl, hcy1, hcy2, HC⟩ := row_at hu (by rw [HRL.out y hlt]; omega)
      rw [HRL.out y hlt] at hc hcy1 HC
      have cY := cell_up hc HB.out
      clear hc hu
      go_wp2_with fail
      go_loopw [10] (fun xv wi => ∃ (x : Nat), x ≤ W ∧ xv = .int .i64 x ∧ Hid (MatZ wi p g W H (fun a c => (decide (c < y) || (decide (c = y) && decide (a < x))) && bitOf rows a c)) ∧ Hid (Below w.heap.size w wi)) (fun xv _ => W - (intOf xv).toNat)
      case atStart => exact ⟨0, Nat.zero_le _, rfl, Lib.hid (HM.out.congr (fun x y _ _ => by simp)), HB⟩
      case round =>
        rename World => wi
        clear HM HB
        obtain ⟨x, hx, rfl, HM, HB⟩ := hrel
        by_cases hxl : x < W
        · have cX := cell_up (HC.out x hxl) HB.out
          have hbit : (rows.getD y []).getD x false = bitOf rows x y := rfl
          rw [hbit] at cX
          rcases hbv : bitOf rows x y with _ | _
          · have HM2 : Hid (MatZ wi p g W H (fun a c => (decide (c < y) || (decide (c = y) && decide (a < x + 1))) && bitOf rows a c)) := Lib.hid (HM.out.congr (fun a c _ _ => by
              by_cases hac : c = y ∧ a = x
              · obtain ⟨rfl, rfl⟩ := hac; rw [hbv]; simp
              · have e : (decide (c = y) && decide (a < x)) = (decide (c = y) && decide (a < x + 1)) := by
                  rw [Bool.eq_iff_iff]; simp; omega
                rw [e]))
            rw [hbv] at cX
            clear hbv hbit HM
            go_wp2
            go_roundw
            case rel => exact ⟨x + 1, by omega, by go_num, HM2, HB⟩
            case measure => simp [intOf]; omega
          · rw [hbv] at cX
            have HBV := Lib.hid hbv; clear hbv hbit
            go_wp2_with fail
            refine (matSetZ_any p g W H x y _ _ HM.out hxl hlt hW4 hH4).mono ?_
            rintro e w2 ⟨i, u, rfl, rfl, hm2⟩
            have HM2 : Hid (MatZ (wi.setCell ⟨g, i, none⟩ u) p g W H (fun a c => (decide (c < y) || (decide (c = y) && decide (a < x + 1))) && bitOf rows a c)) := Lib.hid (hm2.congr (fun a c _ _ => by
              by_cases hac : c = y ∧ a = x
              · obtain ⟨rfl, rfl⟩ := hac; rw [HBV.out]; simp
              · have e : (decide (c = y) && decide (a < x)) = (decide (c = y) && decide (a < x + 1)) := by
                  rw [Bool.eq_iff_iff]; simp; omega
                have e2 : (decide (a = x) && decide (c = y)) = false := by
                  rw [Bool.eq_false_iff]; simp; omega
                rw [e, e2, Bool.or_false]))
            have HB2 := Lib.hid (HB.out.setCell (p := ⟨g, i, none⟩) hg u)
            clear hm2 HM HBV cX
            go_wp2
            go_roundw
            case rel => exact ⟨x + 1, by omega, by go_num, HM2, HB2⟩
            case measure => simp [intOf]; omega
        · obtain rfl : x = W := by omega
          have HM2 : Hid (MatZ wi p g x H (fun a c => decide (c < y + 1) && bitOf rows a c)) := Lib.hid (HM.out.congr (fun a c ha _ => by
            have e : (decide (c < y) || (decide (c = y) && decide (a < x))) = decide (c < y + 1) := by
              rw [Bool.eq_iff_iff]; simp; omega
            rw [e]))
          go_wp2
          go_roundw
          case rel => exact ⟨y + 1, by omega, by go_num, HM2, HB⟩
          case measure => simp [intOf]; omega
    · obtain rfl : y = H := by omega
      go_wp2
      go_ret2
      exact ⟨p, g, rfl, HM.out.congr (fun a c _ hc => by simp [hc]), hp, hg, HB.out⟩

end Go.Proofs.Ytcldipbboidjbaa
namespace Go.Proofs.Ytcldipbboidjbaa
open Go.RowKit

theorem word_lt {ws : List Nat} (h : ∀ v ∈ ws, v < 4294967296) (i : Nat) : ws.getD i 0 < 4294967296 := by
  rw [List.getD]
  rcases Nat.lt_or_ge i ws.length with hl | hl
  · rw [List.getElem?_eq_getElem hl]; exact h _ (List.getElem_mem hl)
  · rw [List.getElem?_eq_none hl]; decide
/-- A word is 0 if its 32 bits are. -/
theorem word_zero {ws : List Nat} {rs y j : Nat} (h : ∀ v ∈ ws, v < 4294967296) (hb : ∀ b, b < 32 → bitM ws rs (32 * j + b) y = false) : ws.getD (y * rs + j) 0 = 0 := by
  apply Nat.eq_of_testBit_eq
  intro i
  rw [Nat.zero_testBit]
  rcases Nat.lt_or_ge i 32 with hi | hi
  · have := hb i hi
    unfold bitM at this
    rw [show (32 * j + i) / 32 = j by omega, show (32 * j + i) % 32 = i by omega] at this
    exact this
  · exact Nat.testBit_lt_two_pow (Nat.lt_of_lt_of_le (word_lt h _) (Nat.pow_le_pow_right (n := 2) (i := 32) (by decide) hi))
/-- The lowest k bits are 0. -/
theorem low_zero {x k : Nat} (h : ∀ i, i < k → x.testBit i = false) : x % 2 ^ k = 0 := by
  apply Nat.eq_of_testBit_eq
  intro i
  rw [Nat.testBit_mod_two_pow, Nat.zero_testBit]
  by_cases hi : i < k
  · rw [h i hi, Bool.and_false]
  · rw [decide_eq_false hi, Bool.false_and]
theorem shl_zero (x k : Nat) (hk : k ≤ 31) : x * 2 ^ (31 - k) % 4294967296 = x % 2 ^ (k + 1) * 2 ^ (31 - k) := by
  have e : (4294967296 : Nat) = 2 ^ (k + 1) * 2 ^ (31 - k) := by rw [← Nat.pow_add, show k + 1 + (31 - k) = 32 by omega]
  rw [e, Nat.mul_mod_mul_right]
theorem shl_cast (z k : Nat) : (z : Int) * 2 ^ k % 4294967296 = ((z * 2 ^ k % 4294967296 : Nat) : Int) := by
  rw [Int.natCast_emod, Int.natCast_mul, Int.natCast_pow]; rfl
/-- The first dark pixel, and the words ahead of it. -/
theorem first_word {ws : List Nat} {W H x0 y0 : Nat} {f : Nat → Nat → Bool} (hlt : ∀ v ∈ ws, v < 4294967296) (hf : ∀ x y, x / 32 < (W + 31) / 32 → y < H → bitM ws ((W + 31) / 32) x y = (decide (x < W) && f x y))
    (hx : x0 < W) (hy : y0 < H) (h1 : ∀ x y, y < y0 → x < W → f x y = false) (h2 : ∀ x, x < x0 → f x y0 = false) (i : Nat) (hi : i < y0 * ((W + 31) / 32) + x0 / 32) : ws.getD i 0 = 0 := by
  have hr : x0 / 32 < (W + 31) / 32 := by omega
  obtain ⟨rs, hrs⟩ : ∃ rs, rs = (W + 31) / 32 := ⟨_, rfl⟩
  rw [← hrs] at hf hi hr
  have e := Nat.div_add_mod i rs
  have hj : i % rs < rs := Nat.mod_lt _ (by omega)
  have hyy : i / rs ≤ y0 := by
    have : i < (y0 + 1) * rs := by rw [Nat.add_mul, Nat.one_mul]; omega
    have := Nat.div_lt_of_lt_mul (by rw [Nat.mul_comm] at this; exact this)
    omega
  have e2 : i = i / rs * rs + i % rs := by rw [Nat.mul_comm]; exact e.symm
  rw [e2]
  refine word_zero hlt (fun b hb => ?_)
  rw [hf _ _ (by omega) (by omega)]
  by_cases hyl : i / rs < y0
  · by_cases hw : 32 * (i % rs) + b < W
    · rw [h1 _ _ hyl hw, Bool.and_false]
    · rw [decide_eq_false hw, Bool.false_and]
  · have hye : i / rs = y0 := by omega
    rw [hye] at e2 ⊢
    rw [h2 _ (by omega), Bool.and_false]
set_option maxRecDepth 100000 in
set_option maxHeartbeats 4000000 in
theorem topLeft_any (p g W H x0 y0 : Nat) (f : Nat → Nat → Bool) (w : World) (h : MatZ w p g W H f) (hW : W ≤ 2000) (hH : H ≤ 2000) (hx : x0 < W) (hy : y0 < H) (hd : f x0 y0 = true) (h1 : ∀ x y, y < y0 → x < W → f x y = false) (h2 : ∀ x, x < x0 → f x y0 = false) :
    Calls Try.prog 84 #[.pointer (some ⟨p, 0, none⟩)] w fun e w' => ∃ b, e = .returned (.slice (some ⟨b, 0, none⟩) 2 2) ∧ Blk w' b 3 #[.int .i64 x0, .int .i64 y0] ∧ Below w.heap.size w w' := by
  obtain ⟨ws, hm, hf⟩ := h
  have hr : x0 / 32 < (W + 31) / 32 := by omega
  have hpl := place_lt hr hy
  rw [← hm.len] at hpl
  have hz := first_word hm.lt hf hx hy h1 h2
  have hbit : ∀ i, i < 32 → (ws.getD (y0 * ((W + 31) / 32) + x0 / 32) 0).testBit i = (decide (32 * (x0 / 32) + i < W) && f (32 * (x0 / 32) + i) y0) := fun i hi => by
    rw [← hf _ _ (by omega) hy]
    unfold bitM
    rw [show (32 * (x0 / 32) + i) / 32 = x0 / 32 by omega, show (32 * (x0 / 32) + i) % 32 = i by omega]
  have hdk : (ws.getD (y0 * ((W + 31) / 32) + x0 / 32) 0).testBit (x0 % 32) = true := by
    rw [hbit _ (Nat.mod_lt _ (by decide)), show 32 * (x0 / 32) + x0 % 32 = x0 by omega, decide_eq_true hx, hd]; rfl
  have hlo : ∀ k, k < x0 % 32 → ws.getD (y0 * ((W + 31) / 32) + x0 / 32) 0 % 2 ^ (k + 1) = 0 := fun k hk => low_zero (fun i hi => by
    rw [hbit i (by omega), h2 _ (by omega), Bool.and_false])
  have hhi : ws.getD (y0 * ((W + 31) / 32) + x0 / 32) 0 % 2 ^ (x0 % 32 + 1) ≠ 0 := fun he => by
    have h9 := congrArg (fun z => Nat.testBit z (x0 % 32)) he
    simp only [Nat.testBit_mod_two_pow, Nat.zero_testBit] at h9
    rw [hdk, decide_eq_true (by omega)] at h9
    cases h9
  have hwl := word_lt hm.lt (y0 * ((W + 31) / 32) + x0 / 32)
  have hlen : ws.length ≤ 63 * 2000 := by rw [hm.len]; exact Nat.mul_le_mul (by omega) hH
  have c3 : w.cell? ⟨p, 3, none⟩ = some (.slice (some ⟨g, 0, none⟩) ws.length ws.length) := by rw [hm.head.cell]; rfl
  have c2 : w.cell? ⟨p, 2, none⟩ = some (.int .i64 ((W + 31) / 32 : Nat)) := by rw [hm.head.cell]; rfl
  have HCW : Hid (∀ i, i < ws.length → w.cell? ⟨g, i, none⟩ = some (.int .u32 ((ws.getD i 0 : Nat) : Int))) := Lib.hid (fun i hi => by
    rw [hm.rows.cell, wv_at _ _ hi, List.getD, List.getElem?_eq_getElem hi]; rfl)
  have HZ := Lib.hid hz; have HLO := Lib.hid hlo; have HHI := Lib.hid hhi
  clear hz hlo hhi hdk hbit hm hf h1 h2 hd
  obtain ⟨rs, hrs⟩ : ∃ rs, rs = (W + 31) / 32 := ⟨_, rfl⟩
  obtain ⟨xb, hxb⟩ : ∃ xb, xb = x0 / 32 := ⟨_, rfl⟩
  obtain ⟨xm, hxm⟩ : ∃ xm, xm = x0 % 32 := ⟨_, rfl⟩
  have hx32 : xb * 32 + xm = x0 ∧ xm < 32 := by omega
  have hrs63 : rs ≤ 63 := by omega
  rw [← hrs] at hr hpl hwl c2 HZ HLO HHI
  rw [← hxb] at hr hpl hwl HZ HLO HHI
  rw [← hxm] at HLO HHI
  obtain ⟨K, hK⟩ : ∃ K, K = y0 * rs + xb := ⟨_, rfl⟩
  rw [← hK] at hpl hwl HZ HLO HHI
  have d1 : K / rs = y0 := by rw [hK, Nat.mul_comm, Nat.mul_add_div (by omega), Nat.div_eq_of_lt hr, Nat.add_zero]
  have d2 : K % rs = xb := by rw [hK, Nat.mul_comm, Nat.mul_add_mod, Nat.mod_eq_of_lt hr]
  have q1 : (K : Int) / (rs : Int) = (y0 : Int) := by rw [← Int.natCast_ediv, d1]
  have q2 : (K : Int) % (rs : Int) = (xb : Int) := by rw [← Int.natCast_emod, d2]
  have q3 : Int.tdiv (K : Int) (rs : Int) = (y0 : Int) := by rw [Int.tdiv_eq_ediv_of_nonneg (by omega)]; exact q1
  have q4 : Int.tmod (K : Int) (rs : Int) = (xb : Int) := by rw [Int.tmod_eq_emod_of_nonneg (by omega)]; exact q2
  have hrs0 : ¬ rs = 0 := by omega
  have hrs0' : ¬ ((rs : Int) = 0) := by omega
  have cK := HCW.out K hpl
  obtain ⟨z, hz⟩ : ∃ z, z = ws.getD K 0 := ⟨_, rfl⟩
  rw [← hz] at cK hwl HLO HHI
  have hz0 : z ≠ 0 := fun he => by have := HHI.out; rw [he, Nat.zero_mod] at this; exact this rfl
  have hzb : ((z : Int) == 0) = false := by rw [beq_eq_false_iff_ne]; omega
  generalize hlen2 : ws.length = len at *
  clear hlen2 hz hK hxb hxm hrs d1 d2
  obtain ⟨w1, rfl⟩ : ∃ wo : World, wo = w := ⟨_, rfl⟩
  go_enter Try.func84, Try.ntmps84
  go_wp2_with fail
  go_loopw [3] (fun iv wr => ∃ (i : Nat), i ≤ K ∧ iv = .int .i64 (i : Int) ∧ wr = w1) (fun iv _ => K - (intOf iv).toNat)
  case atStart => exact ⟨0, by omega, rfl, rfl⟩
  case round =>
    obtain ⟨i, hi, rfl, rfl⟩ := hrel
    rename World => w1
    by_cases hlt : i < K
    · have cI := HCW.out i (by omega)
      rw [HZ.out i hlt] at cI
      go_wp2_with fail
      go_roundw
      case rel => exact ⟨i + 1, by omega, by go_num, trivial⟩
      case measure => simp [intOf]; omega
    · obtain rfl : K = i := by omega
      have hne : ((K : Int) == (len : Int)) = false := by rw [beq_eq_false_iff_ne]; omega
      go_wp2_with fail
      clear hne q1 q2 q3 q4 cK c2 c3 hzb
      go_loopw [7] (fun bv wr => ∃ (b : Nat), b ≤ xm ∧ bv = .int .u64 (b : Int) ∧ wr = w1) (fun bv _ => xm - (intOf bv).toNat)
      case atStart => exact ⟨0, by omega, rfl, rfl⟩
      case round =>
        obtain ⟨b, hb, rfl, rfl⟩ := hrel
        rename World => w1
        have hsh := shl_zero z b (by omega)
        by_cases hbl : b < xm
        · rw [HLO.out b hbl, Nat.zero_mul] at hsh
          have hsi : (((z : Int) * 2 ^ (31 - b) % 4294967296) == 0) = true := by rw [beq_iff_eq, shl_cast, hsh]; rfl
          clear hsh
          go_wp2_with fail
          go_roundw
          case rel => exact ⟨b + 1, by omega, by go_num, trivial⟩
          case measure => simp [intOf]; omega
        · obtain rfl : xm = b := by omega
          have hne : z * 2 ^ (31 - xm) % 4294967296 ≠ 0 := by
            rw [hsh]
            exact Nat.mul_ne_zero HHI.out (Nat.pos_iff_ne_zero.1 (Nat.two_pow_pos _))
          have hsi : (((z : Int) * 2 ^ (31 - xm) % 4294967296) == 0) = false := by
            rw [beq_eq_false_iff_ne]
            rw [shl_cast]
            intro he
            exact hne (Int.ofNat.inj he)
          have hx64 : (xb : Int) * 32 + (xm : Int) = (x0 : Int) := by omega
          clear hsh hne
          go_wp2_with fail
          go_ret
          exact ⟨_, rfl, Blk.fresh w1 _ _, bal (brf w1) _⟩
end Go.Proofs.Ytcldipbboidjbaa
namespace Go.Proofs.Ytcldipbboidjbaa
open Go.RowKit

/-- The words behind the last dark pixel. -/
theorem last_word {ws : List Nat} {W H x0 y0 : Nat} {f : Nat → Nat → Bool} (hlt : ∀ v ∈ ws, v < 4294967296) (hn : ws.length = (W + 31) / 32 * H) (hf : ∀ x y, x / 32 < (W + 31) / 32 → y < H → bitM ws ((W + 31) / 32) x y = (decide (x < W) && f x y))
    (hx : x0 < W) (h1 : ∀ x y, y0 < y → y < H → x < W → f x y = false) (h2 : ∀ x, x0 < x → x < W → f x y0 = false) (i : Nat) (hi : y0 * ((W + 31) / 32) + x0 / 32 < i) (hil : i < ws.length) : ws.getD i 0 = 0 := by
  have hr : x0 / 32 < (W + 31) / 32 := by omega
  obtain ⟨rs, hrs⟩ : ∃ rs, rs = (W + 31) / 32 := ⟨_, rfl⟩
  rw [← hrs] at hf hi hr hn
  have e := Nat.div_add_mod i rs
  have hj : i % rs < rs := Nat.mod_lt _ (by omega)
  have hyH : i / rs < H := Nat.div_lt_of_lt_mul (by rw [← hn]; exact hil)
  have e2 : i = i / rs * rs + i % rs := by rw [Nat.mul_comm]; exact e.symm
  have hyy : y0 ≤ i / rs := by
    rcases Nat.lt_or_ge (i / rs) y0 with h | h
    · have h3 : (i / rs + 1) * rs ≤ y0 * rs := Nat.mul_le_mul_right rs h
      rw [Nat.add_mul, Nat.one_mul] at h3
      omega
    · exact h
  rw [e2]
  refine word_zero hlt (fun b hb => ?_)
  rw [hf _ _ (by omega) hyH]
  by_cases hw : 32 * (i % rs) + b < W
  · by_cases hyl : y0 < i / rs
    · rw [h1 _ _ hyl hyH hw, Bool.and_false]
    · have hye : i / rs = y0 := by omega
      rw [hye] at e2 ⊢
      rw [h2 _ (by omega) hw, Bool.and_false]
  · rw [decide_eq_false hw, Bool.false_and]
theorem high_zero {x k : Nat} (hx : x < 4294967296) (h : ∀ i, k ≤ i → i < 32 → x.testBit i = false) : x / 2 ^ k = 0 := by
  apply Nat.eq_of_testBit_eq
  intro i
  rw [Nat.testBit_div_two_pow, Nat.zero_testBit]
  rcases Nat.lt_or_ge (i + k) 32 with h1 | h1
  · exact h _ (by omega) h1
  · exact Nat.testBit_lt_two_pow (Nat.lt_of_lt_of_le hx (Nat.pow_le_pow_right (n := 2) (i := 32) (by decide) h1))
theorem shr_cast (z k : Nat) : (z : Int) / 2 ^ k = ((z / 2 ^ k : Nat) : Int) := by
  rw [Int.natCast_ediv, Int.natCast_pow]; rfl
set_option maxRecDepth 100000 in
set_option maxHeartbeats 4000000 in
theorem bottomRight_any (p g W H x0 y0 : Nat) (f : Nat → Nat → Bool) (w : World) (h : MatZ w p g W H f) (hW : W ≤ 2000) (hH : H ≤ 2000) (hx : x0 < W) (hy : y0 < H) (hd : f x0 y0 = true) (h1 : ∀ x y, y0 < y → y < H → x < W → f x y = false) (h2 : ∀ x, x0 < x → x < W → f x y0 = false) :
    Calls Try.prog 85 #[.pointer (some ⟨p, 0, none⟩)] w fun e w' => ∃ b, e = .returned (.slice (some ⟨b, 0, none⟩) 2 2) ∧ Blk w' b 3 #[.int .i64 x0, .int .i64 y0] ∧ Below w.heap.size w w' := by
  obtain ⟨ws, hm, hf⟩ := h
  have hr : x0 / 32 < (W + 31) / 32 := by omega
  have hpl := place_lt hr hy
  rw [← hm.len] at hpl
  have hz := last_word hm.lt hm.len hf hx h1 h2
  have hbit : ∀ i, i < 32 → (ws.getD (y0 * ((W + 31) / 32) + x0 / 32) 0).testBit i = (decide (32 * (x0 / 32) + i < W) && f (32 * (x0 / 32) + i) y0) := fun i hi => by
    rw [← hf _ _ (by omega) hy]
    unfold bitM
    rw [show (32 * (x0 / 32) + i) / 32 = x0 / 32 by omega, show (32 * (x0 / 32) + i) % 32 = i by omega]
  have hdk : (ws.getD (y0 * ((W + 31) / 32) + x0 / 32) 0).testBit (x0 % 32) = true := by
    rw [hbit _ (Nat.mod_lt _ (by decide)), show 32 * (x0 / 32) + x0 % 32 = x0 by omega, decide_eq_true hx, hd]; rfl
  have hwl := word_lt hm.lt (y0 * ((W + 31) / 32) + x0 / 32)
  have hlo : ∀ k, x0 % 32 < k → ws.getD (y0 * ((W + 31) / 32) + x0 / 32) 0 / 2 ^ k = 0 := fun k hk => high_zero hwl (fun i hi h32 => by
    rw [hbit i h32]
    by_cases hw : 32 * (x0 / 32) + i < W
    · rw [h2 _ (by omega) hw, Bool.and_false]
    · rw [decide_eq_false hw, Bool.false_and])
  have hhi : ws.getD (y0 * ((W + 31) / 32) + x0 / 32) 0 / 2 ^ (x0 % 32) ≠ 0 := fun he => by
    have h9 := congrArg (fun z => Nat.testBit z 0) he
    simp only [Nat.testBit_div_two_pow, Nat.zero_testBit, Nat.zero_add] at h9
    rw [hdk] at h9
    cases h9
  have hlen : ws.length ≤ 63 * 2000 := by rw [hm.len]; exact Nat.mul_le_mul (by omega) hH
  have c3 : w.cell? ⟨p, 3, none⟩ = some (.slice (some ⟨g, 0, none⟩) ws.length ws.length) := by rw [hm.head.cell]; rfl
  have c2 : w.cell? ⟨p, 2, none⟩ = some (.int .i64 ((W + 31) / 32 : Nat)) := by rw [hm.head.cell]; rfl
  have HCW : Hid (∀ i, i < ws.length → w.cell? ⟨g, i, none⟩ = some (.int .u32 ((ws.getD i 0 : Nat) : Int))) := Lib.hid (fun i hi => by
    rw [hm.rows.cell, wv_at _ _ hi, List.getD, List.getElem?_eq_getElem hi]; rfl)
  have HZ := Lib.hid hz; have HLO := Lib.hid hlo; have HHI := Lib.hid hhi
  clear hz hlo hhi hdk hbit hm hf h1 h2 hd
  obtain ⟨rs, hrs⟩ : ∃ rs, rs = (W + 31) / 32 := ⟨_, rfl⟩
  obtain ⟨xb, hxb⟩ : ∃ xb, xb = x0 / 32 := ⟨_, rfl⟩
  obtain ⟨xm, hxm⟩ : ∃ xm, xm = x0 % 32 := ⟨_, rfl⟩
  have hx32 : xb * 32 + xm = x0 ∧ xm < 32 := by omega
  have hrs63 : rs ≤ 63 := by omega
  rw [← hrs] at hr hpl hwl c2 HZ HLO HHI
  rw [← hxb] at hr hpl hwl HZ HLO HHI
  rw [← hxm] at HLO HHI
  obtain ⟨K, hK⟩ : ∃ K, K = y0 * rs + xb := ⟨_, rfl⟩
  rw [← hK] at hpl hwl HZ HLO HHI
  have d1 : K / rs = y0 := by rw [hK, Nat.mul_comm, Nat.mul_add_div (by omega), Nat.div_eq_of_lt hr, Nat.add_zero]
  have d2 : K % rs = xb := by rw [hK, Nat.mul_comm, Nat.mul_add_mod, Nat.mod_eq_of_lt hr]
  have q1 : (K : Int) / (rs : Int) = (y0 : Int) := by rw [← Int.natCast_ediv, d1]
  have q2 : (K : Int) % (rs : Int) = (xb : Int) := by rw [← Int.natCast_emod, d2]
  have hrs0 : ¬ rs = 0 := by omega
  have hrs0' : ¬ ((rs : Int) = 0) := by omega
  have cK := HCW.out K hpl
  obtain ⟨z, hz⟩ : ∃ z, z = ws.getD K 0 := ⟨_, rfl⟩
  rw [← hz] at cK hwl HLO HHI
  have hz0 : z ≠ 0 := fun he => by have := HHI.out; rw [he, Nat.zero_div] at this; exact this rfl
  have hzb : ((z : Int) == 0) = false := by rw [beq_eq_false_iff_ne]; omega
  generalize hlen2 : ws.length = len at *
  clear hlen2 hz hK hxb hxm hrs d1 d2
  obtain ⟨w1, rfl⟩ : ∃ wo : World, wo = w := ⟨_, rfl⟩
  go_enter Try.func85, Try.ntmps85
  go_wp2_with fail
  go_loopw [3] (fun iv wr => ∃ (i : Nat), K ≤ i ∧ i < len ∧ iv = .int .i64 (i : Int) ∧ wr = w1) (fun iv _ => (intOf iv).toNat)
  case atStart => exact ⟨len - 1, by omega, by omega, congrArg (Value.int .i64) (by omega), rfl⟩
  case round =>
    obtain ⟨i, hi, hil, rfl, rfl⟩ := hrel
    rename World => w1
    by_cases hlt : K < i
    · have cI := HCW.out i hil
      rw [HZ.out i hlt hil] at cI
      obtain ⟨i1, hi1⟩ : ∃ i1, i1 = i - 1 := ⟨_, rfl⟩
      have ei : (i : Int) - 1 = (i1 : Int) := by omega
      have hi2 : K ≤ i1 ∧ i1 < len ∧ i1 < i := by omega
      clear hi1
      go_wp2_with fail
      go_roundw
      case rel => exact ⟨i1, hi2.1, hi2.2.1, rfl, trivial⟩
      case measure => simp [intOf]; omega
    · obtain rfl : K = i := by omega
      go_wp2_with fail
      clear q1 q2 cK c2 c3 hzb
      go_loopw [7] (fun bv wr => ∃ (b : Nat), xm ≤ b ∧ b ≤ 31 ∧ bv = .int .u64 (b : Int) ∧ wr = w1) (fun bv _ => (intOf bv).toNat)
      case atStart => exact ⟨31, by omega, by omega, rfl, rfl⟩
      case round =>
        obtain ⟨b, hb, hb31, rfl, rfl⟩ := hrel
        rename World => w1
        by_cases hbl : xm < b
        · have hsi : (((z : Int) / 2 ^ b) == 0) = true := by rw [beq_iff_eq, shr_cast, HLO.out b hbl]; rfl
          obtain ⟨b1, hb1⟩ : ∃ b1, b1 = b - 1 := ⟨_, rfl⟩
          have eb : (b : Int) - 1 = (b1 : Int) := by omega
          have hb2 : xm ≤ b1 ∧ b1 ≤ 31 ∧ b1 < b := by omega
          clear hb1
          go_wp2_with fail
          go_roundw
          case rel => exact ⟨b1, hb2.1, hb2.2.1, rfl, trivial⟩
          case measure => simp [intOf]; omega
        · obtain rfl : xm = b := by omega
          have hsi : (((z : Int) / 2 ^ xm) == 0) = false := by
            rw [beq_eq_false_iff_ne, shr_cast]
            intro he
            exact HHI.out (Int.ofNat.inj he)
          have hx64 : (xb : Int) * 32 + (xm : Int) = (x0 : Int) := by omega
          go_wp2_with fail
          go_ret
          exact ⟨_, rfl, Blk.fresh w1 _ _, bal (brf w1) _⟩
end Go.Proofs.Ytcldipbboidjbaa
namespace Go.Proofs.Ytcldipbboidjbaa
open Go.RowKit

theorem blank_words {ws : List Nat} {W H : Nat} {f : Nat → Nat → Bool} (hl : ws.length = (W + 31) / 32 * H) (hlt : ∀ v ∈ ws, v < 4294967296) (hf : ∀ x y, x / 32 < (W + 31) / 32 → y < H → bitM ws ((W + 31) / 32) x y = (decide (x < W) && f x y))
    (h1 : ∀ x y, y < H → x < W → f x y = false) (i : Nat) (hi : i < ws.length) : ws.getD i 0 = 0 := by
  obtain ⟨rs, hrs⟩ : ∃ rs, rs = (W + 31) / 32 := ⟨_, rfl⟩
  rw [← hrs] at hf hl
  have hp : 0 < rs := by
    rcases Nat.eq_zero_or_pos rs with h | h
    · rw [h, Nat.zero_mul] at hl; omega
    · exact h
  have e := Nat.div_add_mod i rs
  have hj : i % rs < rs := Nat.mod_lt _ hp
  have hyy : i / rs < H := Nat.div_lt_of_lt_mul (by omega)
  have e2 : i = i / rs * rs + i % rs := by rw [Nat.mul_comm]; exact e.symm
  rw [e2]
  refine word_zero hlt (fun b hb => ?_)
  rw [hf _ _ (by omega) hyy]
  by_cases hw : 32 * (i % rs) + b < W
  · rw [h1 _ _ hyy hw, Bool.and_false]
  · rw [decide_eq_false hw, Bool.false_and]
set_option maxRecDepth 100000 in
set_option maxHeartbeats 4000000 in
theorem topLeft_blank (p g W H : Nat) (f : Nat → Nat → Bool) (w : World) (h : MatZ w p g W H f) (hW : W ≤ 2000) (hH : H ≤ 2000) (h1 : ∀ x y, y < H → x < W → f x y = false) :
    Calls Try.prog 84 #[.pointer (some ⟨p, 0, none⟩)] w fun e w' => e = .returned (.slice none 0 0) ∧ Below w.heap.size w w' := by
  obtain ⟨ws, hm, hf⟩ := h
  have hz := blank_words (by rw [hm.len]) hm.lt hf h1
  have hlen : ws.length ≤ 63 * 2000 := by rw [hm.len]; exact Nat.mul_le_mul (by omega) hH
  have c3 : w.cell? ⟨p, 3, none⟩ = some (.slice (some ⟨g, 0, none⟩) ws.length ws.length) := by rw [hm.head.cell]; rfl
  have HCW : Hid (∀ i, i < ws.length → w.cell? ⟨g, i, none⟩ = some (.int .u32 ((ws.getD i 0 : Nat) : Int))) := Lib.hid (fun i hi => by
    rw [hm.rows.cell, wv_at _ _ hi, List.getD, List.getElem?_eq_getElem hi]; rfl)
  have HZ := Lib.hid hz
  clear hz hm hf h1
  generalize hlen2 : ws.length = len at *
  clear hlen2
  obtain ⟨w1, rfl⟩ : ∃ wo : World, wo = w := ⟨_, rfl⟩
  go_enter Try.func84, Try.ntmps84
  go_wp2_with fail
  go_loopw [3] (fun iv wr => ∃ (i : Nat), i ≤ len ∧ iv = .int .i64 (i : Int) ∧ wr = w1) (fun iv _ => len - (intOf iv).toNat)
  case atStart => exact ⟨0, by omega, rfl, rfl⟩
  case round =>
    obtain ⟨i, hi, rfl, rfl⟩ := hrel
    rename World => w1
    by_cases hlt : i < len
    · have cI := HCW.out i (by omega)
      rw [HZ.out i hlt] at cI
      go_wp2_with fail
      go_roundw
      case rel => exact ⟨i + 1, by omega, by go_num, trivial⟩
      case measure => simp [intOf]; omega
    · obtain rfl : len = i := by omega
      go_wp2_with fail
      go_ret
      exact ⟨rfl, brf _⟩
set_option maxRecDepth 100000 in
set_option maxHeartbeats 4000000 in
theorem bottomRight_blank (p g W H : Nat) (f : Nat → Nat → Bool) (w : World) (h : MatZ w p g W H f) (hW : W ≤ 2000) (hH : H ≤ 2000) (h1 : ∀ x y, y < H → x < W → f x y = false) :
    Calls Try.prog 85 #[.pointer (some ⟨p, 0, none⟩)] w fun e w' => e = .returned (.slice none 0 0) ∧ Below w.heap.size w w' := by
  obtain ⟨ws, hm, hf⟩ := h
  have hz := blank_words (by rw [hm.len]) hm.lt hf h1
  have hlen : ws.length ≤ 63 * 2000 := by rw [hm.len]; exact Nat.mul_le_mul (by omega) hH
  have c3 : w.cell? ⟨p, 3, none⟩ = some (.slice (some ⟨g, 0, none⟩) ws.length ws.length) := by rw [hm.head.cell]; rfl
  have HCW : Hid (∀ i, i < ws.length → w.cell? ⟨g, i, none⟩ = some (.int .u32 ((ws.getD i 0 : Nat) : Int))) := Lib.hid (fun i hi => by
    rw [hm.rows.cell, wv_at _ _ hi, List.getD, List.getElem?_eq_getElem hi]; rfl)
  have HZ := Lib.hid hz
  clear hz hm hf h1
  generalize hlen2 : ws.length = len at *
  clear hlen2
  obtain ⟨w1, rfl⟩ : ∃ wo : World, wo = w := ⟨_, rfl⟩
  go_enter Try.func85, Try.ntmps85
  go_wp2_with fail
  go_loopw [3] (fun iv wr => ∃ (i : Nat), i ≤ len ∧ iv = .int .i64 ((i : Int) - 1) ∧ wr = w1) (fun iv _ => (intOf iv + 1).toNat)
  case atStart => exact ⟨len, by omega, rfl, rfl⟩
  case round =>
    obtain ⟨i, hi, rfl, rfl⟩ := hrel
    rename World => w1
    by_cases hlt : 0 < i
    · obtain ⟨i1, hi1⟩ : ∃ i1, i = i1 + 1 := ⟨i - 1, by omega⟩
      have hi2 : i1 < len := by omega
      obtain rfl := hi1
      have ei : (((i1 + 1 : Nat) : Int) - 1) = (i1 : Int) := by omega
      rw [ei]
      have cI := HCW.out i1 hi2
      rw [HZ.out i1 hi2] at cI
      go_wp2_with fail
      go_roundw
      case rel => exact ⟨i1, by omega, rfl, trivial⟩
      case measure => simp [intOf]
    · obtain rfl : i = 0 := by omega
      go_wp2_with fail
      go_ret
      exact ⟨rfl, brf _⟩
end Go.Proofs.Ytcldipbboidjbaa
namespace Go.Proofs.Ytcldipbboidjbaa
open Go.RowKit

theorem gridZ_any (W H : Nat) (v : Value) (rows : List (List Bool)) (w : World) (hv : RowsT w v rows) (hH : rows.length = H) (hr : ∀ r ∈ rows, r.length = W) (hW1 : 1 ≤ W) (hH1 : 1 ≤ H) (hW4 : W ≤ 4096) (hH4 : H ≤ 4096) :
    Calls Try.prog 24 #[v] w fun e w' => ∃ p g, e = .returned (.tuple #[.pointer (some ⟨p, 0, none⟩), .nilIface]) ∧ MatZ w' p g W H (bitOf rows) ∧ w.heap.size ≤ p ∧ w.heap.size ≤ g ∧ Below w.heap.size w w' := by
  go_enter Try.func24, Try.ntmps24
  go_wp2_with fail
  refine (parseRowsZ_any W H v rows _ hv hH hr hW1 hH1 hW4 hH4).mono ?_
  rintro e w1 ⟨p, g, rfl, hm, hp, hg, hb1⟩
  have HM := Lib.hid hm; have HB := Lib.hid hb1; clear hm hb1 hv hr hH
  go_wp2
  go_ret2
  exact ⟨p, g, rfl, HM.out, hp, hg, HB.out⟩
end Go.Proofs.Ytcldipbboidjbaa
