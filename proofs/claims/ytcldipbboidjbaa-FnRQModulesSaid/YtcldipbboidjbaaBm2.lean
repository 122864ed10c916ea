/-
  WALKS: gozxing.BitMatrix: Set, NewBitMatrix.
-/
import Derived.Test.YtcldipbboidjbaaBm
namespace Go.Proofs.Ytcldipbboidjbaa
open Go.RowKit

theorem matSet_any (p g W H x y : Nat) (f : Nat → Nat → Bool) (w : World) (h : MatAt w p g W H f) (hx : x < W) (hy : y < H) (hW : W ≤ 4096) (hH : H ≤ 4096) :
    Calls Try.prog 80 #[.pointer (some ⟨p, 0, none⟩), .int .i64 x, .int .i64 y] w fun e w' => ∃ i u, e = .returned (.tuple #[]) ∧ w' = w.setCell ⟨g, i, none⟩ u ∧
      MatAt w' p g W H (fun a b => f a b || (decide (a = x) && decide (b = y))) := by
  obtain ⟨ws, h, hf⟩ := h
  have hr : x / 32 < (W + 31) / 32 := by omega
  have hpl := place_lt hr hy
  rw [← h.len] at hpl
  have c0 : w.cell? ⟨p, 2, none⟩ = some (.int .i64 ((W + 31) / 32 : Nat)) := by rw [h.head.cell]; rfl
  have c1 : w.cell? ⟨p, 3, none⟩ = some (.slice (some ⟨g, 0, none⟩) ws.length ws.length) := by rw [h.head.cell]; rfl
  have c4 : w.cell? ⟨g, y * ((W + 31) / 32) + x / 32, none⟩ = some (.int .u32 ((ws[y * ((W + 31) / 32) + x / 32] : Nat) : Int)) := by rw [h.rows.cell, wv_at _ _ hpl]
  have f4 := h.rows.frozen (y * ((W + 31) / 32) + x / 32)
  have hv := h.lt _ (List.getElem_mem hpl)
  have hlen : ws.length ≤ 129 * 4096 := by rw [h.len]; exact Nat.mul_le_mul (by omega) hH
  have hg0 : ws.getD (y * ((W + 31) / 32) + x / 32) 0 = ws[y * ((W + 31) / 32) + x / 32] := by rw [List.getD, List.getElem?_eq_getElem hpl]; rfl
  have hM : MatAt (w.setCell ⟨g, y * ((W + 31) / 32) + x / 32, none⟩ (.int .u32 ((ws[y * ((W + 31) / 32) + x / 32] ||| 2 ^ (x % 32) : Nat) : Int))) p g W H (fun a b => f a b || (decide (a = x) && decide (b = y))) := by
    refine ⟨setM ws ((W + 31) / 32) x y, ⟨by rw [setM_len]; exact h.head.far h.apart _, ?_, setM_lt h.lt, by rw [setM_len]; exact h.len, h.apart⟩, fun a b ha hb => ?_⟩
    · unfold setM
      rw [← wv_set, hg0]
      exact h.rows.put _ _
    · rw [setM_bit ws _ x y a b H h.len hr hy (by omega), hf a b ha hb]
  have HM := Lib.hid hM
  clear hM hg0 h hf
  generalize ws[y * ((W + 31) / 32) + x / 32] = v at *
  generalize ws.length = n at *
  have hrs : (W + 31) / 32 ≤ 129 := by omega
  generalize (W + 31) / 32 = rs at *
  have e1 : (y : Int) * (rs : Int) = ((y * rs : Nat) : Int) := by simp
  generalize y * rs = m at *
  have e2 : bits .or .u32 (v : Int) ((2 : Int) ^ (x % 32) % 4294967296) = ((v ||| 2 ^ (x % 32) : Nat) : Int) := by
    rw [pow32 _ (Nat.mod_lt _ (by decide))]
    exact u32_or _ _ hv (Nat.pow_lt_pow_right (n := 32) (by decide) (Nat.mod_lt _ (by decide)))
  generalize (v ||| 2 ^ (x % 32)) = z at *
  go_enter Try.func80, Try.ntmps80
  go_wp2
  refine bodyPost_end (results_none rfl _ _ _) rfl ?_
  exact ⟨_, _, rfl, rfl, HM.out⟩

theorem bitM_rep (n rs x y : Nat) : bitM (List.replicate n 0) rs x y = false := by
  unfold bitM
  rw [List.getD]
  rcases Nat.lt_or_ge (y * rs + x / 32) n with h | h
  · rw [List.getElem?_replicate_of_lt h]; simp
  · rw [List.getElem?_eq_none (by simpa using h)]; simp
set_option maxRecDepth 100000 in
theorem newMat_any (W H : Nat) (w : World) (hW1 : 1 ≤ W) (hH1 : 1 ≤ H) (hW : W ≤ 4096) (hH : H ≤ 4096) :
    Calls Try.prog 79 #[.int .i64 W, .int .i64 H] w fun e w' => ∃ p g, e = .returned (.tuple #[.pointer (some ⟨p, 0, none⟩), .nilIface]) ∧ MatAt w' p g W H (fun _ _ => false) ∧ w.heap.size ≤ p ∧ w.heap.size ≤ g ∧ Below w.heap.size w w' := by
  have hrs : (W + 31) / 32 ≤ 129 := by omega
  have hdiv : ((W : Int) + 31) / 32 = (((W + 31) / 32 : Nat) : Int) := by omega
  have hmul : (((W + 31) / 32 : Nat) : Int) * (H : Int) = (((W + 31) / 32 * H : Nat) : Int) := by simp
  have hn : (W + 31) / 32 * H ≤ 129 * 4096 := Nat.mul_le_mul hrs hH
  have hmk := run_mk (P := Try.prog) 169 172 (.int .u32 0) 4 Try.underlying169 (by kernel_rfl) rfl ((W + 31) / 32 * H) (by omega) (by omega) w
  have hl : ((List.replicate ((W + 31) / 32 * H) 0 : List Nat)).length = (W + 31) / 32 * H := List.length_replicate
  have hM : ∀ a, Blk a w.heap.size 172 (wv (List.replicate ((W + 31) / 32 * H) 0)).toArray → ∀ p, p ≠ w.heap.size → Blk a p 171 #[.int .i64 W, .int .i64 H, .int .i64 ((W + 31) / 32 : Nat), .slice (some ⟨w.heap.size, 0, none⟩) ((W + 31) / 32 * H) ((W + 31) / 32 * H)] →
      MatAt a p w.heap.size W H (fun _ _ => false) := fun a h1 p hp h2 =>
    ⟨List.replicate ((W + 31) / 32 * H) 0, ⟨by rw [hl]; exact h2, h1, fun x hx => by rw [List.eq_of_mem_replicate hx]; decide, hl, hp⟩, fun x y _ _ => bitM_rep _ _ _ _⟩
  have HM := Lib.hid hM; clear hM hl
  rw [wv_rep] at HM
  have hX := Blk.fresh w 172 (rep ((W + 31) / 32 * H) (.int .u32 0))
  have hB := bal (brf w) (.cells (rep ((W + 31) / 32 * H) (.int .u32 0)) 172)
  generalize rep ((W + 31) / 32 * H) (.int .u32 0) = z at *
  generalize (W + 31) / 32 * H = m at *
  generalize (W + 31) / 32 = rs at *
  have HX := Lib.hid (And.intro hX hB); clear hX hB
  go_enter Try.func79, Try.ntmps79
  go_wp2
  go_ret2
  refine ⟨_, _, rfl, HM.out _ (HX.out.1.alloc _) _ ?_ (Blk.fresh' (by simp)), ?_, Nat.le_refl _, bal HX.out.2 _⟩
  · simp
  · simp
end Go.Proofs.Ytcldipbboidjbaa
