/-
  WALKS: rows of pixels: spec.BIFits, spec.PXBoth; two grays: laws.pxTwo.
-/
import Derived.Test.YtimfaplnhlnjlaaRo2
import Derived.Test.YtimfaplnhlnjlaaPc2
namespace Go.Proofs.Ytimfaplnhlnjlaa
open Go.RowKit

set_option maxRecDepth 100000 in
/-- spec.BIFits. -/
theorem biFits_any (n : Nat) (v : Value) (l : List Bool) (w : World) (hv : Rd w w.heap.size v (bv l)) (hn : n ≤ 4096) :
    Calls Try.prog 13 #[v, .int .i64 n] w fun e w' => ∃ v', e = .returned v' ∧ RdT w' 4 v' (bv (biRow n l 0)) ∧ Below w.heap.size w w' := by
  have HV := Lib.hid hv; clear hv
  go_enter Try.func13, Try.ntmps13
  go_wp2_with fail
  refine (biRows_any n 1 v l w HV.out hn (by omega)).mono ?_
  rintro e w1 ⟨v1, rfl, hr, hb⟩
  have HB := Lib.hid hb; clear hb
  have hl := biRows_len n 1 l
  have h0 := biRows_at n 1 l 0 (by omega)
  generalize biRows n 1 l = R at *
  obtain ⟨b, o, cap, rfl, k1, k2, HR⟩ := hr.at_ (by omega)
  rw [hl] at k1 HR ⊢
  obtain ⟨u, c0, hu⟩ := HR.out 0 (by omega)
  rw [h0] at hu
  have HU := Lib.hid hu; clear hu HR h0 hr HV
  rw [Nat.add_zero] at c0
  go_wp2
  go_ret
  exact ⟨_, rfl, HU.out, HB.out⟩

set_option maxRecDepth 100000 in
set_option maxHeartbeats 1000000 in
/-- spec.PXBoth. -/
theorem both_any (v : Value) (l : List Bool) (a b : Nat) (w : World) (hv : RdT w 4 v (bv l)) (hb : b ≤ l.length) (hs : l.length ≤ 1000000) (ha : a ≤ 1000000) :
    Calls Try.prog 14 #[v, .int .i64 a, .int .i64 b] w fun e w' => (∃ r, e = .returned (.bool r) ∧ (r = true ↔ ∃ i, a < i ∧ i < b ∧ l.getD i false ≠ l.getD a false)) ∧ Below w.heap.size w w' := by
  by_cases hab : a + 1 < b
  · obtain ⟨bb, o, c, rfl, k1, k2, HC⟩ := row_at hv (by omega)
    have cA0 := HC.out a (by omega)
    have hbw := World.block_lt_of_cell? w _ cA0
    clear hv
    obtain ⟨x0, hx0⟩ : ∃ x, x = l.getD a false := ⟨_, rfl⟩
    rw [← hx0] at cA0
    have HX0 := Lib.hid hx0; clear hx0
    go_enter Try.func14, Try.ntmps14
    go_wp2
    go_loopw [7] (fun iv wr => ∃ i : Nat, a + 1 ≤ i ∧ i ≤ b ∧ iv = .int .i64 i ∧ Hid (∀ j, a < j → j < i → l.getD j false = l.getD a false) ∧ Hid (Below w.heap.size w wr)) (fun iv _ => b - (intOf iv).toNat)
    case atStart => exact ⟨a + 1, Nat.le_refl _, by omega, by go_num, Lib.hid (fun j h1 h2 => by omega), Lib.hid (brf w)⟩
    case round =>
      obtain ⟨i, hi1, hi2, rfl, HJ, HB⟩ := hrel
      by_cases hlt : i < b
      · have cI : wr.cell? ⟨bb, o + i, none⟩ = _ := (below_cells HB.out bb (o + i) hbw).trans (HC.out i (by omega))
        have cA : wr.cell? ⟨bb, o + a, none⟩ = _ := (below_cells HB.out bb (o + a) hbw).trans cA0
        obtain ⟨x, hx⟩ : ∃ x, x = l.getD i false := ⟨_, rfl⟩
        rw [← hx] at cI
        have HX := Lib.hid hx; clear hx
        have hil : i < l.length := by omega
        have hal : a < l.length := by omega
        go_wp2_with fail
        refine Can.wp_region_can (fun w' => w'.cell? ⟨bb, o + i, none⟩ = some (.bool x) ∧ w'.cell? ⟨bb, o + a, none⟩ = some (.bool x0)) 999 [0, 1, 2, 3, 4, 5, 6, 7, 8] (by kernel_rfl) (by kernel_rfl) (fun _ _ d _ _ h => by cases d <;> exact h) ⟨cI, cA⟩ (fun hHeld => ?_)
        repeat (refine Can.can_pure (v := ?_) rfl rfl (Or.inl ⟨by rfl, ?_⟩) ?_; rotate_left; (focus ((intro w hSw); (try dsimp only at hSw); go_simp; (try with_reducible rfl))); (try simp only [Act.put, List.getElem_toArray, List.getElem_cons_succ, List.getElem_cons_zero, List.setIfInBounds_toArray, List.set_cons_zero, List.set_cons_succ]))
        refine Can.can_done ?_
        have HB2 := Lib.hid (bdr HB.out)
        clear hHeld cI cA HB
        generalize World.drew wr = wq at *
        by_cases hne : x = x0
        · subst hne
          have HJ2 : Hid (∀ j, a < j → j < i + 1 → l.getD j false = l.getD a false) := Lib.hid (fun j h1 h2 => by
            rcases Nat.lt_or_ge j i with h | h
            · exact HJ.out j h1 h
            · obtain rfl : j = i := by omega
              rw [← HX.out, ← HX0.out])
          cases x <;>
          (go_wp2
           go_roundw
           case rel => exact ⟨i + 1, by omega, by omega, by go_num, HJ2, HB2⟩
           case measure => simp [intOf]; omega)
        · have hex : ∃ i, a < i ∧ i < b ∧ l.getD i false ≠ l.getD a false := ⟨i, by omega, hlt, by rw [← HX.out, ← HX0.out]; exact hne⟩
          have HE := Lib.hid hex; clear hex
          obtain rfl : x0 = !x := by cases x <;> cases x0 <;> simp_all
          clear hne
          cases x <;>
          (go_wp2
           go_ret
           exact ⟨⟨true, rfl, by simp only [true_iff]; exact HE.out⟩, HB2.out⟩)
      · obtain rfl : i = b := by omega
        have hno : ¬ ∃ j, a < j ∧ j < i ∧ l.getD j false ≠ l.getD a false := by
          rintro ⟨j, h1, h2, h3⟩
          exact h3 (HJ.out j h1 h2)
        have HNO := Lib.hid hno; clear hno
        go_wp2
        go_ret
        exact ⟨⟨false, rfl, by simp only [Bool.false_eq_true, false_iff]; exact HNO.out⟩, HB.out⟩
  · have hno : ¬ ∃ j, a < j ∧ j < b ∧ l.getD j false ≠ l.getD a false := by
      rintro ⟨j, h1, h2, h3⟩
      omega
    have HNO := Lib.hid hno; clear hno
    obtain ⟨A, cap, rfl, k1, k2, -⟩ := hv
    have hd : ¬ (a : Int) + 1 < (b : Int) := by omega
    go_enter Try.func14, Try.ntmps14
    go_wp2
    go_loopw [7] (fun iv wr => iv = .int .i64 ((a + 1 : Nat) : Int) ∧ wr = w) (fun iv _ => 0)
    case atStart => exact ⟨by go_num, rfl⟩
    case round =>
      obtain ⟨rfl, rfl⟩ := hrel
      go_wp2
      go_ret
      exact ⟨⟨false, rfl, by simp only [Bool.false_eq_true, false_iff]; exact HNO.out⟩, brf _⟩

set_option maxRecDepth 100000 in
/-- laws.pxTwo. -/
theorem pxTwo_any (x y : Nat) (w : World) (hx : x < 256) (hy : y < 256) :
    Calls Try.prog 15 #[.int .u8 x, .int .u8 y] w fun e w' => (∃ d l : Nat, e = .returned (.tuple #[.int .u8 d, .int .u8 l]) ∧ d + 24 ≤ l ∧ l < 256) ∧ Below w.heap.size w w' := by
  obtain ⟨d, hd⟩ : ∃ d, d = x % 232 := ⟨_, rfl⟩
  have hd2 : d < 232 := by omega
  obtain ⟨D, hD⟩ : ∃ D, D = 232 - d := ⟨_, rfl⟩
  obtain ⟨m, hm⟩ : ∃ m, m = y % D := ⟨_, rfl⟩
  have hmD : m < D := by rw [hm]; exact Nat.mod_lt _ (by omega)
  obtain ⟨e, he⟩ : ∃ e, e = d + 24 := ⟨_, rfl⟩
  obtain ⟨l, hl⟩ : ∃ l, l = e + m := ⟨_, rfl⟩
  have s1 : (x : Int) % 232 = (d : Int) := by omega
  have t1 : Int.tmod (x : Int) 232 = (d : Int) := by rw [Int.tmod_eq_emod_of_nonneg (by omega)]; exact s1
  have s2 : (232 : Int) - (d : Int) = (D : Int) := by omega
  have s3 : (y : Int) % (D : Int) = (m : Int) := by rw [hm]; simp
  have t3 : Int.tmod (y : Int) (D : Int) = (m : Int) := by rw [Int.tmod_eq_emod_of_nonneg (by omega)]; exact s3
  have s4 : (d : Int) + 24 = (e : Int) := by omega
  have s5 : (e : Int) + (m : Int) = (l : Int) := by omega
  have w1 : IntKind.u8.wrap (d : Int) = (d : Int) := by rw [IntKind.wrap_u8]; omega
  have w2 : IntKind.u8.wrap (D : Int) = (D : Int) := by rw [IntKind.wrap_u8]; omega
  have w3 : IntKind.u8.wrap (m : Int) = (m : Int) := by rw [IntKind.wrap_u8]; omega
  have w4 : IntKind.u8.wrap (e : Int) = (e : Int) := by rw [IntKind.wrap_u8]; omega
  have w5 : IntKind.u8.wrap (l : Int) = (l : Int) := by rw [IntKind.wrap_u8]; omega
  have z1 : ¬ D = 0 := by omega
  have hfin : d + 24 ≤ l ∧ l < 256 := by omega
  have HF := Lib.hid hfin
  clear hd hD hm he hl hfin s3
  go_enter Try.func15, Try.ntmps15
  go_wp2_with fail
  refine Can.wp_region_can (fun w' => True) 999 [0, 1, 2, 3, 4, 5, 6, 7, 8, 9] (by kernel_rfl) (by kernel_rfl) (fun _ _ d _ _ h => by cases d <;> exact h) trivial (fun hHeld => ?_)
  repeat (refine Can.can_pure (v := ?_) rfl rfl (Or.inl ⟨by rfl, ?_⟩) ?_; rotate_left; (focus ((intro w hSw); (try dsimp only at hSw); go_simp; (try with_reducible rfl))); (try simp only [Act.put, List.getElem_toArray, List.getElem_cons_succ, List.getElem_cons_zero, List.setIfInBounds_toArray, List.set_cons_zero, List.set_cons_succ]))
  refine Can.can_done ?_
  go_wp2
  go_ret2
  exact ⟨⟨d, l, rfl, HF.out.1, HF.out.2⟩, bdr (brf w)⟩
end Go.Proofs.Ytimfaplnhlnjlaa
