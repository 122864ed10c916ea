/-
  WALK: laws.qrBytes.
-/
import Derived.Test.YtjkfkkenaiodoaaPq14
namespace Go.Proofs.Ytjkfkkenaiodoaa
open Go.RowKit

theorem bl_wv8 (t : List UInt8) : bl t = wv8 (t.map UInt8.toNat) := by simp [bl, wv8]
theorem wv8_cell {w : World} {A : Option Addr} {n c : Nat} {bs : List Nat} (h : Rd w w.heap.size (.slice A n c) (wv8 bs)) {i : Nat} (hi : i < bs.length) : ∃ b o, A = some ⟨b, o, none⟩ ∧ w.cell? ⟨b, o + i, none⟩ = some (.int .u8 ((bs[i] : Nat) : Int)) := by
  obtain ⟨A', c', hv, k1, k2, k3⟩ := h
  injection hv with e1 e2 e3
  subst e1
  obtain ⟨b, o, rfl, _, hc⟩ := k3 (by rw [wv8_len]; omega)
  exact ⟨b, o, rfl, hc i _ (wv8_at bs i hi)⟩
set_option maxRecDepth 100000 in
theorem qrBytes_any (v1 v2 : Value) (bs : List Nat) (w : World) (h1 : RdT w 5 v1 (wv8 bs)) (h2 : Rd w w.heap.size v2 (wv8 bs)) (hl : bs.length ≤ 100000000000) :
    Calls Try.prog 9 #[v1, v2] w fun e w' => e = .returned (.bool true) ∧ Below w.heap.size w w' := by
  obtain ⟨A1, c1, hv1, -, -⟩ := h1.rd.form
  obtain ⟨A2, c2, hv2, -, -⟩ := h2.form
  rw [wv8_len] at hv1 hv2
  subst hv1 hv2
  have H1 := Lib.hid h1
  have H2 := Lib.hid h2
  clear h1 h2
  go_enter Try.func9, Try.ntmps9
  go_wp2_with fail
  go_loopw [13] (fun iv wr => ∃ i : Nat, i ≤ bs.length ∧ iv = .int .i64 i ∧ Hid (Below w.heap.size w wr)) (fun iv _ => bs.length - (intOf iv).toNat)
  case atStart => exact ⟨0, Nat.zero_le _, rfl, Lib.hid (brf _)⟩
  case round =>
    obtain ⟨i, hi, rfl, HB⟩ := hrel
    rename World => wr
    by_cases hlt : i < bs.length
    · obtain ⟨b1, o1, rfl, d1⟩ := wv8_cell (H1.out.up HB.out).rd hlt
      obtain ⟨b2, o2, rfl, d2⟩ := wv8_cell (H2.out.up HB.out) hlt
      obtain ⟨x, hx⟩ : ∃ x, x = bs[i] := ⟨_, rfl⟩
      rw [← hx] at d1 d2
      clear hx
      go_wp2_with fail
      refine Can.wp_region_can (fun w' => w'.cell? ⟨b1, o1 + i, none⟩ = some (.int .u8 (x : Int)) ∧ w'.cell? ⟨b2, o2 + i, none⟩ = some (.int .u8 (x : Int))) 999 [0, 1, 2, 3, 4, 5, 6, 7, 8] (by kernel_rfl) (by kernel_rfl) (fun _ _ d _ _ h => by cases d <;> exact h) ⟨d1, d2⟩ (fun hHeld => ?_)
      repeat (refine Can.can_pure (v := ?_) rfl rfl (Or.inl ⟨by rfl, ?_⟩) ?_; rotate_left; (focus ((intro w hSw); (try dsimp only at hSw); go_simp; (try with_reducible rfl))); (try simp only [Act.put, List.getElem_toArray, List.getElem_cons_succ, List.getElem_cons_zero, List.setIfInBounds_toArray, List.set_cons_zero, List.set_cons_succ]))
      refine Can.can_done ?_
      have HB2 := Lib.hid (bdr HB.out)
      clear hHeld d1 d2 HB
      go_wp2
      go_roundw
      case rel => exact ⟨i + 1, hlt, rfl, HB2⟩
      case measure => simp [intOf]; omega
    · obtain rfl : i = bs.length := by omega
      go_wp2
      go_ret
      exact ⟨rfl, HB.out⟩
end Go.Proofs.Ytjkfkkenaiodoaa
