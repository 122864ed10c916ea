/-
  WALKS: BitMatrix.SetRegion, NewSquareBitMatrix, Version.buildFunctionPattern.
-/
import Derived.Test.YtfgajbhgkdkmbaaRo3
import Derived.Test.YtfgajbhgkdkmbaaQg1
import Derived.Test.YtfgajbhgkdkmbaaSh1
namespace Go.Proofs.Ytfgajbhgkdkmbaa
open Go.RowKit

/-- Pointer p is a square matrix, whose bits are those of which P holds. -/
def MatP (w : World) (p g n : Nat) (P : Nat → Nat → Prop) : Prop := ∃ F, MatAt w p g n n F ∧ ∀ x y, x < n → y < n → (F x y = true ↔ P x y)
theorem MatP.up {w w' : World} {p g n : Nat} {P : Nat → Nat → Prop} (h : MatP w p g n P) (hb : Below w.heap.size w w') : MatP w' p g n P := by
  obtain ⟨F, h1, h2⟩ := h; exact ⟨F, h1.up hb, h2⟩
theorem MatP.congr {w : World} {p g n : Nat} {P Q : Nat → Nat → Prop} (h : MatP w p g n P) (he : ∀ x y, x < n → y < n → (P x y ↔ Q x y)) : MatP w p g n Q := by
  obtain ⟨F, h1, h2⟩ := h; exact ⟨F, h1, fun x y hx hy => (h2 x y hx hy).trans (he x y hx hy)⟩
set_option maxRecDepth 100000 in
set_option maxHeartbeats 4000000 in
theorem setRegion_any (p g n l t a b : Nat) (P : Nat → Nat → Prop) (w : World) (hm : MatP w p g n P) (hn : n ≤ 177) (ha : 1 ≤ a) (hb : 1 ≤ b) (hl : l + a ≤ n) (ht : t + b ≤ n) :
    Calls Try.prog 133 #[.pointer (some ⟨p, 0, none⟩), .int .i64 l, .int .i64 t, .int .i64 a, .int .i64 b] w fun e w' => e = .returned .nilIface ∧ MatP w' p g n (fun x y => P x y ∨ (l ≤ x ∧ x < l + a ∧ t ≤ y ∧ y < t + b)) ∧ Below g w w' := by
  have cells : ∀ w' (Q : Nat → Nat → Prop), MatP w' p g n Q → w'.cell? ⟨p, 0, none⟩ = some (.int .i64 n) ∧ w'.cell? ⟨p, 1, none⟩ = some (.int .i64 n) ∧ w'.cell? ⟨p, 2, none⟩ = some (.int .i64 ((n + 31) / 32 : Nat)) := fun w' Q h => by
    obtain ⟨F, ⟨ws, h1, _⟩, _⟩ := h
    exact ⟨by rw [h1.head.cell]; rfl, by rw [h1.head.cell]; rfl, by rw [h1.head.cell]; rfl⟩
  -- what one store does
  have one : ∀ w' (Q : Nat → Nat → Prop) x y, MatP w' p g n Q → x < n → y < n → ∃ len z zz : Nat, w'.cell? ⟨p, 3, none⟩ = some (.slice (some ⟨g, 0, none⟩) len len) ∧ y * ((n + 31) / 32) + x / 32 < len ∧ len ≤ 100000 ∧ w'.cell? ⟨g, y * ((n + 31) / 32) + x / 32, none⟩ = some (.int .u32 (z : Nat)) ∧ w'.frozen? ⟨g, y * ((n + 31) / 32) + x / 32, none⟩ = false ∧
      bits .or .u32 (z : Int) ((2 : Int) ^ (x % 32) % 4294967296) = ((zz : Nat) : Int) ∧ MatP (w'.setCell ⟨g, y * ((n + 31) / 32) + x / 32, none⟩ (.int .u32 (zz : Nat))) p g n (fun c r => Q c r ∨ (c = x ∧ r = y)) := fun w' Q x y h hx hy => by
    obtain ⟨F, ⟨ws, h1, hf⟩, h2⟩ := h
    have hr : x / 32 < (n + 31) / 32 := by omega
    have hpl := place_lt hr hy
    rw [← h1.len] at hpl
    have hv := h1.lt _ (List.getElem_mem hpl)
    have hlen : ws.length ≤ 6 * 177 := by rw [h1.len]; exact Nat.mul_le_mul (by omega) hn
    have hg0 : ws.getD (y * ((n + 31) / 32) + x / 32) 0 = ws[y * ((n + 31) / 32) + x / 32] := by rw [List.getD, List.getElem?_eq_getElem hpl]; rfl
    refine ⟨ws.length, ws[y * ((n + 31) / 32) + x / 32], ws[y * ((n + 31) / 32) + x / 32] ||| 2 ^ (x % 32), by rw [h1.head.cell]; rfl, hpl, by omega, by rw [h1.rows.cell, wv_at _ _ hpl], h1.rows.frozen _, ?_, ?_⟩
    · rw [pow32 _ (Nat.mod_lt _ (by decide))]
      exact u32_or _ _ hv (Nat.pow_lt_pow_right (n := 32) (by decide) (Nat.mod_lt _ (by decide)))
    · refine ⟨fun c r => F c r || (decide (c = x) && decide (r = y)), ⟨setM ws ((n + 31) / 32) x y, ⟨by rw [setM_len]; exact h1.head.far h1.apart _, ?_, setM_lt h1.lt, by rw [setM_len]; exact h1.len, h1.apart⟩, fun c r hc hr' => ?_⟩, fun c r hc hr' => ?_⟩
      · unfold setM
        rw [← wv_set, hg0]
        exact h1.rows.put _ _
      · rw [setM_bit ws _ x y c r n h1.len hr hy (by omega), hf c r hc hr']
      · rw [Bool.or_eq_true, h2 c r hc hr']; simp
  have HM := Lib.hid hm
  have HC := Lib.hid cells; have HO := Lib.hid one
  obtain ⟨c0, c1, c2⟩ := cells w P hm
  clear cells one hm
  have hrs6 : (n + 31) / 32 ≤ 6 := by omega
  obtain ⟨rs, hrs⟩ : ∃ rs, rs = (n + 31) / 32 := ⟨_, rfl⟩
  rw [← hrs] at c2 HC HO hrs6
  clear hrs
  have e1 : (l : Int) + (a : Int) = ((l + a : Nat) : Int) := by omega
  have e2 : (t : Int) + (b : Int) = ((t + b : Nat) : Int) := by omega
  obtain ⟨R, hR⟩ : ∃ R, R = l + a := ⟨_, rfl⟩
  obtain ⟨D, hD⟩ : ∃ D, D = t + b := ⟨_, rfl⟩
  have HRD := Lib.hid (And.intro hR hD)
  rw [← hR] at e1 hl
  rw [← hD] at e2 ht
  have hlR : l ≤ R := by omega
  have htD : t ≤ D := by omega
  clear hR hD
  have a1 : ¬ ((b : Int) < 1) := by omega
  have a2 : ¬ ((a : Int) < 1) := by omega
  go_enter Try.func133, Try.ntmps133
  go_wp2_with fail
  clear c0 c1 c2
  go_loopw [13] (fun yv wr => ∃ (y : Nat), t ≤ y ∧ y ≤ D ∧ yv = .int .i64 (y : Int) ∧ Hid (MatP wr p g n (fun c r => P c r ∨ (l ≤ c ∧ c < R ∧ t ≤ r ∧ r < y))) ∧ Hid (Below g w wr)) (fun yv _ => D - (intOf yv).toNat)
  case atStart => exact ⟨t, Nat.le_refl _, htD, rfl, Lib.hid (HM.out.congr (fun x y _ _ => ⟨Or.inl, fun h => h.elim id (fun h => by omega)⟩)), Lib.hid (Below.refl _ _)⟩
  case round =>
    clear HM
    obtain ⟨y, hty, hyD, rfl, HM, HB⟩ := hrel
    by_cases hlt : y < D
    · obtain ⟨c0, c1, c2⟩ := HC.out _ _ HM.out
      have e3 : (y : Int) * (rs : Int) = ((y * rs : Nat) : Int) := by simp
      have hyrs : y * rs ≤ 177 * 6 := Nat.mul_le_mul (by omega) hrs6
      obtain ⟨yr, hyr⟩ : ∃ yr, yr = y * rs := ⟨_, rfl⟩
      rw [← hyr] at e3 hyrs
      have HYR := Lib.hid hyr
      clear hyr
      go_wp2_with fail
      clear c0 c1 c2 e3
      go_loopw [15] (fun xv wr => ∃ (x : Nat), l ≤ x ∧ x ≤ R ∧ xv = .int .i64 (x : Int) ∧ Hid (MatP wr p g n (fun c r => (P c r ∨ (l ≤ c ∧ c < R ∧ t ≤ r ∧ r < y)) ∨ (l ≤ c ∧ c < x ∧ r = y))) ∧ Hid (Below g w wr)) (fun xv _ => R - (intOf xv).toNat)
      case atStart => exact ⟨l, Nat.le_refl _, hlR, rfl, Lib.hid (HM.out.congr (fun x y _ _ => ⟨Or.inl, fun h => h.elim id (fun h => by omega)⟩)), HB⟩
      case round =>
        clear HM HB
        rename World => wi
        obtain ⟨x, hlx, hxR, rfl, HM, HB⟩ := hrel
        by_cases hxl : x < R
        · obtain ⟨len, z, zz, c3, hpl, hlen, c4, f4, hor, hm2⟩ := HO.out _ _ x y HM.out (by omega) (by omega)
          rw [← HYR.out] at hpl c4 f4 hm2
          have HM2 : Hid (MatP (wi.setCell ⟨g, yr + x / 32, none⟩ (.int .u32 (zz : Nat))) p g n (fun c r => (P c r ∨ (l ≤ c ∧ c < R ∧ t ≤ r ∧ r < y)) ∨ (l ≤ c ∧ c < x + 1 ∧ r = y))) := Lib.hid (hm2.congr (fun c r _ _ => by by_cases hp : P c r <;> simp only [hp, true_or, false_or] <;> omega))
          have HB2 := Lib.hid (HB.out.setCell (p := ⟨g, yr + x / 32, none⟩) (Nat.le_refl _) (.int .u32 (zz : Nat)))
          clear hm2 HM HB
          go_wp2_with fail
          go_roundw
          case rel => exact ⟨x + 1, by omega, by omega, by go_num, HM2, HB2⟩
          case measure => simp [intOf]; omega
        · obtain rfl : R = x := by omega
          have HM2 : Hid (MatP wi p g n (fun c r => P c r ∨ (l ≤ c ∧ c < R ∧ t ≤ r ∧ r < y + 1))) := Lib.hid (HM.out.congr (fun c r _ _ => by by_cases hp : P c r <;> simp only [hp, true_or, false_or] <;> omega))
          clear HM
          go_wp2_with fail
          go_roundw
          case rel => exact ⟨y + 1, by omega, by omega, by go_num, HM2, HB⟩
          case measure => simp [intOf]; omega
    · obtain rfl : D = y := by omega
      have HM2 : Hid (MatP wr p g n (fun x y => P x y ∨ (l ≤ x ∧ x < l + a ∧ t ≤ y ∧ y < t + b))) := Lib.hid (by rw [← HRD.out.1, ← HRD.out.2]; exact HM.out)
      clear HM
      go_wp2_with fail
      go_ret
      exact ⟨rfl, HM2.out, HB.out⟩
theorem newSquare_any (n : Nat) (w : World) (h1 : 1 ≤ n) (hn : n ≤ 177) :
    Calls Try.prog 132 #[.int .i64 n] w fun e w' => ∃ p g, e = .returned (.tuple #[.pointer (some ⟨p, 0, none⟩), .nilIface]) ∧ MatP w' p g n (fun _ _ => False) ∧ w.heap.size ≤ p ∧ w.heap.size ≤ g ∧ Below w.heap.size w w' := by
  go_enter Try.func132, Try.ntmps132
  go_wp2_with fail
  refine (newMat_any n n w h1 h1 (by omega) (by omega)).mono ?_
  rintro e w1 ⟨p, g, rfl, hm, hp, hg, hb⟩
  have HM : Hid (MatP w1 p g n (fun _ _ => False)) := Lib.hid ⟨_, hm, fun x y _ _ => by simp⟩
  have HB := Lib.hid hb
  clear hm hb
  go_wp2
  go_ret2
  exact ⟨p, g, rfl, HM.out, hp, hg, HB.out⟩
/-- In the first rows of alignment patterns. -/
def alU (cs : List Nat) (I K r c : Nat) : Prop := (∃ i, i < I ∧ ∃ k, k < cs.length ∧ skipA cs.length i k = false ∧ nearB (cs.getD i 0) r = true ∧ nearB (cs.getD k 0) c = true) ∨ (∃ k, k < K ∧ skipA cs.length I k = false ∧ nearB (cs.getD I 0) r = true ∧ nearB (cs.getD k 0) c = true)
theorem alU_zero (cs : List Nat) (r c : Nat) : ¬ alU cs 0 0 r c := by
  rintro (⟨i, h, _⟩ | ⟨i, h, _⟩) <;> omega
theorem alU_row (cs : List Nat) (I r c : Nat) : alU cs I cs.length r c ↔ alU cs (I + 1) 0 r c := by
  unfold alU
  constructor
  · rintro (⟨i, h, h2⟩ | h)
    · exact .inl ⟨i, by omega, h2⟩
    · exact .inl ⟨I, by omega, h⟩
  · rintro (⟨i, h, h2⟩ | ⟨k, h, _⟩)
    · rcases Nat.lt_or_ge i I with hl | hl
      · exact .inl ⟨i, hl, h2⟩
      · obtain rfl : i = I := by omega
        exact .inr h2
    · omega
theorem alU_skip (cs : List Nat) (I K r c : Nat) (h : skipA cs.length I K = true) : alU cs I K r c ↔ alU cs I (K + 1) r c := by
  unfold alU
  constructor
  · rintro (h1 | ⟨k, h1, h2⟩)
    · exact .inl h1
    · exact .inr ⟨k, by omega, h2⟩
  · rintro (h1 | ⟨k, h1, h2⟩)
    · exact .inl h1
    · rcases Nat.lt_or_ge k K with hl | hl
      · exact .inr ⟨k, hl, h2⟩
      · obtain rfl : k = K := by omega
        rw [h] at h2; cases h2.1
theorem alU_take (cs : List Nat) (I K r c : Nat) (h : skipA cs.length I K = false) : (alU cs I K r c ∨ (nearB (cs.getD I 0) r = true ∧ nearB (cs.getD K 0) c = true)) ↔ alU cs I (K + 1) r c := by
  unfold alU
  constructor
  · rintro ((h1 | ⟨k, h1, h2⟩) | h1)
    · exact .inl h1
    · exact .inr ⟨k, by omega, h2⟩
    · exact .inr ⟨K, by omega, h, h1⟩
  · rintro (h1 | ⟨k, h1, h2⟩)
    · exact .inl (.inl h1)
    · rcases Nat.lt_or_ge k K with hl | hl
      · exact .inl (.inr ⟨k, hl, h2⟩)
      · obtain rfl : k = K := by omega
        exact .inr h2.2
theorem alU_all (cs : List Nat) (r c : Nat) : alU cs cs.length 0 r c ↔ 0 ≤ alignI cs r c := by
  rw [align_iff]
  unfold alU alP
  constructor
  · rintro (h | ⟨k, h, _⟩)
    · exact h
    · omega
  · intro h; exact .inl h
end Go.Proofs.Ytfgajbhgkdkmbaa
