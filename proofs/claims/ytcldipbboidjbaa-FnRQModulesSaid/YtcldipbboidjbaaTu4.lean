/-
  WALKS: laws.qrBools, laws.qrRows of rows that are alike; impl.taken.
-/
import Derived.Test.YtcldipbboidjbaaRo5
import Derived.Test.YtcldipbboidjbaaCan
namespace Go.Proofs.Ytcldipbboidjbaa
open Go.RowKit

theorem sameBools_any (u v : Value) (L : List Bool) (w : World) (hu : RdT w 4 u (bv L)) (hv : RdT w 4 v (bv L)) : Calls Try.prog 27 #[u, v] w fun e w' => e = .returned (.bool true) ∧ Below w.heap.size w w' := by
  have HU := Lib.hid hu.rd; have HV := Lib.hid hv.rd
  obtain ⟨A, c, rfl, k1, k2, -⟩ := hu
  obtain ⟨A', c', rfl, k3, k4, -⟩ := hv
  rw [bv_len] at *
  unfold maxLen at k2 k4
  go_enter Try.func27, Try.ntmps27
  go_wp2_with fail
  go_loopw [13] (fun iv wr => ∃ i : Nat, i ≤ L.length ∧ iv = .int .i64 i ∧ Hid (Below w.heap.size w wr)) (fun iv _ => L.length - (intOf iv).toNat)
  case atStart => exact ⟨0, Nat.zero_le _, rfl, Lib.hid (brf w)⟩
  case round =>
    obtain ⟨i, hi, rfl, HB⟩ := hrel
    by_cases hlt : i < L.length
    · obtain ⟨b1, o1, x1, rfl, hb1, hx1, hc1⟩ := HU.out.at_ hlt
      obtain ⟨b2, o2, x2, rfl, hb2, hx2, hc2⟩ := HV.out.at_ hlt
      rw [bv_at L i hlt] at hx1 hx2
      injection hx1 with hx1
      injection hx2 with hx2
      subst hx1 hx2
      have r1 := cell_up hc1 HB.out
      have r2 := cell_up hc2 HB.out
      clear hc1 hc2
      generalize L[i] = y at *
      have e0 : (y != y) = false := by cases y <;> rfl
      go_wp2_with fail
      refine Can.wp_region_can (fun w' => w'.cell? ⟨b1, o1 + i, none⟩ = some (.bool y) ∧ w'.cell? ⟨b2, o2 + i, none⟩ = some (.bool y)) 999 [0, 1, 2, 3, 4, 5, 6, 7, 8] (by kernel_rfl) (by kernel_rfl) (fun _ _ d _ _ h => by cases d <;> exact h) ⟨r1, r2⟩ (fun hHeld => ?_)
      repeat (refine Can.can_pure (v := ?_) rfl rfl (Or.inl ⟨by rfl, ?_⟩) ?_; rotate_left; (focus ((intro w hSw); (try dsimp only at hSw); go_simp; (try with_reducible rfl))); (try simp only [Act.put, List.getElem_toArray, List.getElem_cons_succ, List.getElem_cons_zero, List.setIfInBounds_toArray, List.set_cons_zero, List.set_cons_succ]))
      refine Can.can_done ?_
      have HB2 := Lib.hid (HB.out.drew)
      clear hHeld r1 r2 HB
      generalize World.drew wr = wq at *
      go_wp2
      go_roundw
      case rel => exact ⟨i + 1, by omega, by go_num, HB2⟩
      case measure => simp [intOf]; omega
    · obtain rfl : i = L.length := by omega
      go_wp2
      go_ret
      exact ⟨rfl, HB.out⟩
theorem sameRows_any (u v : Value) (n : Nat) (F : Nat → Nat → Bool) (w : World) (hu : RowsT w u (rowsF n n F)) (hv : RowsT w v (rowsF n n F)) (h1 : 1 ≤ n) : Calls Try.prog 14 #[u, v] w fun e w' => e = .returned (.bool true) ∧ Below w.heap.size w w' := by
  obtain ⟨ab, ao, ac, rfl, a1, a2, HA⟩ := hu.at_ (by rw [rowsF_len]; omega)
  obtain ⟨bb, bo, bc, rfl, b1, b2, HBb⟩ := hv.at_ (by rw [rowsF_len]; omega)
  rw [rowsF_len] at a1 b1 HA HBb ⊢
  clear hu hv
  go_enter Try.func14, Try.ntmps14
  go_wp2_with fail
  go_loopw [13] (fun iv wr => ∃ i : Nat, i ≤ n ∧ iv = .int .i64 i ∧ Hid (Below w.heap.size w wr)) (fun iv _ => n - (intOf iv).toNat)
  case atStart => exact ⟨0, Nat.zero_le _, rfl, Lib.hid (brf w)⟩
  case round =>
    obtain ⟨i, hi, rfl, HB⟩ := hrel
    by_cases hlt : i < n
    · obtain ⟨x, hx1, hx2⟩ := HA.out i hlt
      obtain ⟨y, hy1, hy2⟩ := HBb.out i hlt
      have r1 := cell_up hx1 HB.out
      have r2 := cell_up hy1 HB.out
      have hsb := sameBools_any x y _ wr.drew ((hx2.up HB.out).up (bdr (brf wr))) ((hy2.up HB.out).up (bdr (brf wr)))
      obtain ⟨xA, xc, rfl, -, -, -⟩ := hx2
      obtain ⟨yA, yc, rfl, -, -, -⟩ := hy2
      obtain ⟨ln, hln⟩ : ∃ ln, ln = (bv ((rowsF n n F).getD i [])).length := ⟨_, rfl⟩
      rw [← hln] at r1 r2 hsb
      clear hx1 hy1 hln
      go_wp2_with fail
      refine Can.wp_region_can (fun w' => w'.cell? ⟨ab, ao + i, none⟩ = some (.slice xA ln xc) ∧ w'.cell? ⟨bb, bo + i, none⟩ = some (.slice yA ln yc) ∧ Below wr.heap.size wr w') 999 [0, 1, 2, 3, 4, 5, 6, 7, 8, 9] (by kernel_rfl) (by kernel_rfl) (fun _ _ d _ _ h => by cases d <;> exact h) ⟨r1, r2, bdr (brf wr)⟩ (fun hHeld => ?_)
      repeat (refine Can.can_pure (v := ?_) rfl rfl (Or.inl ⟨by rfl, ?_⟩) ?_; rotate_left; (focus ((intro w hSw); (try dsimp only at hSw); go_simp; (try with_reducible rfl))); (try simp only [Act.put, List.getElem_toArray, List.getElem_cons_succ, List.getElem_cons_zero, List.setIfInBounds_toArray, List.set_cons_zero, List.set_cons_succ]))
      refine Can.can_eff rfl rfl (by rfl) (fun K hK => ?_)
      go_simp
      refine (hsb).mono ?_
      rintro e w5 ⟨rfl, hb5⟩
      refine hK.out _ _ ⟨cell_up hHeld.1 hb5, cell_up hHeld.2.1 hb5, bup hHeld.2.2 hb5⟩ (fun hHeld1 => ?_)
      clear hK K
      (try simp only [Act.put, List.getElem_toArray, List.getElem_cons_succ, List.getElem_cons_zero, List.setIfInBounds_toArray, List.set_cons_zero, List.set_cons_succ])
      repeat (refine Can.can_pure (v := ?_) rfl rfl (Or.inl ⟨by rfl, ?_⟩) ?_; rotate_left; (focus ((intro w hSw); (try dsimp only at hSw); go_simp; (try with_reducible rfl))); (try simp only [Act.put, List.getElem_toArray, List.getElem_cons_succ, List.getElem_cons_zero, List.setIfInBounds_toArray, List.set_cons_zero, List.set_cons_succ]))
      refine Can.can_done ?_
      have HB2 := Lib.hid (bup HB.out hHeld1.2.2)
      clear hHeld hHeld1 hb5 r1 r2 HB
      go_wp2_with fail
      go_roundw
      case rel => exact ⟨i + 1, by omega, by go_num, HB2⟩
      case measure => simp [intOf]; omega
    · obtain rfl : i = n := by omega
      go_wp2
      go_ret
      exact ⟨rfl, HB.out⟩
theorem taken_any (p g W H : Nat) (f : Nat → Nat → Bool) (w : World) (hm : MatAt w p g W H f) (hW4 : W ≤ 4096) (hH4 : H ≤ 4096) :
    Calls Try.prog 25 #[.pointer (some ⟨p, 0, none⟩), .nilIface] w fun e w' => ∃ b, e = .returned (.tuple #[.slice (some ⟨b, 0, none⟩) H H, .bool true]) ∧ w.heap.size ≤ b ∧ RowsA w' b H (rowsF W H f) ∧ Below w.heap.size w w' := by
  have h := rowsOfB_any p g W H f w hm hW4 hH4
  clear hm
  go_enter Try.func25, Try.ntmps25
  go_wp2_with fail
  refine h.mono ?_
  rintro e w1 ⟨b, rfl, hb0, hr, hb⟩
  have HR := Lib.hid hr; have HB := Lib.hid hb
  clear hr hb h
  go_wp2_with fail
  go_ret2
  exact ⟨b, rfl, hb0, HR.out, HB.out⟩
end Go.Proofs.Ytcldipbboidjbaa
