/-
  WALKS: the standard's numbers (spec) of a version on a level; two lists of numbers compared.
-/
import Derived.Test.YthnhemnlapgnpaaSh3
namespace Go.Proofs.Ythnhemnlapgnpaa
open Go.RowKit

theorem arrZ_E (v l : Nat) (h1 : 1 ≤ v) (h2 : v ≤ 40) : (arrZ (zsE l))[v - 1]? = some (.int .i64 (ecOf v l : Nat)) := by
  have : v - 1 < 40 := by omega
  simp only [arrZ, zsE, List.getElem?_toArray, List.getElem?_map, List.getElem?_range this, Option.map_some]
  rw [Nat.sub_add_cancel h1]
theorem arrZ_B (v l : Nat) (h1 : 1 ≤ v) (h2 : v ≤ 40) : (arrZ (zsB l))[v - 1]? = some (.int .i64 (numOf v l : Nat)) := by
  have : v - 1 < 40 := by omega
  simp only [arrZ, zsB, List.getElem?_toArray, List.getElem?_map, List.getElem?_range this, Option.map_some]
  rw [Nat.sub_add_cancel h1]
set_option maxRecDepth 100000 in
set_option maxHeartbeats 4000000 in
theorem specCor_any (v l : Nat) (w : World) (h1 : 1 ≤ v) (h2 : v ≤ 40) (hl : l < 4) : Calls Try.prog 35 #[.int .i64 (v : Nat), .int .i64 (l : Nat)] w fun e w' => e = .returned (.tuple #[.int .i64 (ecOf v l : Nat), .int .i64 (numOf v l : Nat)]) ∧ Below w.heap.size w w' := by
  have hE : (zsE l).length = 40 := by simp [zsE]
  have hB : (zsB l).length = 40 := by simp [zsB]
  have hE2 := arrZ_size (zsE l)
  have hB2 := arrZ_size (zsB l)
  have hE3 := arrZ_one (zsE l)
  have hB3 := arrZ_one (zsB l)
  have hEa := arrZ_E v l h1 h2
  have hBa := arrZ_B v l h1 h2
  have HC := Lib.hid (specCor l w hl)
  rw [hE] at hE2
  rw [hB] at hB2
  clear hE hB
  generalize arrZ (zsE l) = cE at *
  generalize arrZ (zsB l) = cB at *
  generalize ecOf v l = ec at *
  generalize numOf v l = num at *
  go_enter Try.func35, Try.ntmps35
  go_wp2_with fail
  refine (HC.out).mono ?_
  rintro e w1 ⟨rfl, hb1⟩
  have HB1 := Lib.hid hb1
  clear hb1 HC
  go_wp2_with (with_reducible refine stop_at (o := ⟨none, _, _, _, _, _⟩) ?_)
  refine Lib.hid ?_
  obtain ⟨z, hz⟩ : ∃ z : Array Value, z = rep 40 (.int .i64 0) := ⟨_, rfl⟩
  have hb0 : Blk ((w1.alloc (Obj.cells z 134)).alloc (Obj.cells z 134)) w1.heap.size 134 z := (Blk.fresh w1 _ z).alloc _
  have hb1 : Blk ((w1.alloc (Obj.cells z 134)).alloc (Obj.cells z 134)) (w1.heap.size + 1) 134 z := Blk.fresh' (by simp)
  have hbl : Below w1.heap.size w1 ((w1.alloc (Obj.cells z 134)).alloc (Obj.cells z 134)) := bal (bal (brf w1) _) _
  have hzs : z.size = 40 := by rw [hz]; simp [rep]
  have hzz : z = #[Value.int IntKind.i64 0, Value.int IntKind.i64 0, Value.int IntKind.i64 0, Value.int IntKind.i64 0,
          Value.int IntKind.i64 0, Value.int IntKind.i64 0, Value.int IntKind.i64 0, Value.int IntKind.i64 0,
          Value.int IntKind.i64 0, Value.int IntKind.i64 0, Value.int IntKind.i64 0, Value.int IntKind.i64 0,
          Value.int IntKind.i64 0, Value.int IntKind.i64 0, Value.int IntKind.i64 0, Value.int IntKind.i64 0,
          Value.int IntKind.i64 0, Value.int IntKind.i64 0, Value.int IntKind.i64 0, Value.int IntKind.i64 0,
          Value.int IntKind.i64 0, Value.int IntKind.i64 0, Value.int IntKind.i64 0, Value.int IntKind.i64 0,
          Value.int IntKind.i64 0, Value.int IntKind.i64 0, Value.int IntKind.i64 0, Value.int IntKind.i64 0,
          Value.int IntKind.i64 0, Value.int IntKind.i64 0, Value.int IntKind.i64 0, Value.int IntKind.i64 0,
          Value.int IntKind.i64 0, Value.int IntKind.i64 0, Value.int IntKind.i64 0, Value.int IntKind.i64 0,
          Value.int IntKind.i64 0, Value.int IntKind.i64 0, Value.int IntKind.i64 0, Value.int IntKind.i64 0] := by rw [hz]; rfl
  rw [← hzz]
  clear hz hzz
  generalize ((w1.alloc (Obj.cells z 134)).alloc (Obj.cells z 134)) = w2 at *
  refine wpList_store_rowTo rfl 134 _ _ rfl rfl w1.heap.size cE rfl rfl 134 z hb0 (by rw [hE2]; exact arr_size) (by rw [hzs, hE2]) hE3 ?_
  refine wpList_store_rowTo rfl 134 _ _ rfl rfl (w1.heap.size + 1) cB rfl rfl 134 z ((setRow_other w2 _ _ cE (by omega)).trans hb1) (by rw [hB2]; exact arr_size) (by rw [hzs, hB2]) hB3 ?_
  have k0 : Blk ((w2.setRow w1.heap.size cE).setRow (w1.heap.size + 1) cB) w1.heap.size 134 cE := (setRow_other _ _ _ cB (by omega)).trans (setRow_heap w2 _ _ cE _ _ hb0)
  have k1 : Blk ((w2.setRow w1.heap.size cE).setRow (w1.heap.size + 1) cB) (w1.heap.size + 1) 134 cB := setRow_heap _ _ _ cB _ _ ((setRow_other w2 _ _ cE (by omega)).trans hb1)
  have kb : Below w1.heap.size w1 ((w2.setRow w1.heap.size cE).setRow (w1.heap.size + 1) cB) := below_setRow (below_setRow hbl (Nat.le_refl _) _) (by omega) _
  generalize (w2.setRow w1.heap.size cE).setRow (w1.heap.size + 1) cB = w3 at *
  have m0 : w3.cell? ⟨w1.heap.size, v - 1, none⟩ = some (.int .i64 ec) := by rw [k0.cell]; exact hEa
  have m1 : w3.cell? ⟨w1.heap.size + 1, v - 1, none⟩ = some (.int .i64 num) := by rw [k1.cell]; exact hBa
  have HB3 := Lib.hid (bup HB1.out kb)
  have hv1 : v - 1 < 40 := by omega
  obtain ⟨q, hq⟩ : ∃ q, q = v - 1 := ⟨_, rfl⟩
  have eq_ : (v : Int) - 1 = (q : Int) := by omega
  have wq : IntKind.i64.wrap (q : Int) = (q : Int) := by rw [IntKind.wrap_i64]; omega
  rw [← hq] at m0 m1 hv1
  have hv1i : (q : Int) < 40 := by omega
  clear k0 k1 kb hb0 hb1 hbl hzs hE2 hB2 hE3 hB3 hEa hBa HB1 hq
  go_wp2_with fail
  refine Can.wp_region_can (fun w' => w'.cell? ⟨w1.heap.size, q, none⟩ = some (.int .i64 ec) ∧ w'.cell? ⟨w1.heap.size + 1, q, none⟩ = some (.int .i64 num)) 999 [0, 1, 2, 3, 4, 5, 6, 7, 8, 9] (by kernel_rfl) (by kernel_rfl) (fun _ _ d _ _ h => by cases d <;> exact h) ⟨m0, m1⟩ (fun hHeld => ?_)
  repeat (refine Can.can_pure (v := ?_) rfl rfl (Or.inl ⟨by rfl, ?_⟩) ?_; rotate_left; (focus ((intro w hSw); (try dsimp only at hSw); go_simp; (try with_reducible rfl))); (try simp only [Act.put, List.getElem_toArray, List.getElem_cons_succ, List.getElem_cons_zero, List.setIfInBounds_toArray, List.set_cons_zero, List.set_cons_succ]))
  refine Can.can_done ?_
  go_wp2
  go_ret2
  exact ⟨rfl, bdr HB3.out⟩
theorem specDim_any (v : Nat) (w : World) (h : v ≤ 40) : Calls Try.prog 36 #[.int .i64 (v : Nat)] w fun e w' => e = .returned (.int .i64 ((17 + 4 * v : Nat) : Int)) ∧ w' = w := by
  go_enter Try.func36, Try.ntmps36
  go_wp2
  go_ret
  exact ⟨ret_int (by omega), rfl⟩
theorem specVer_any (v : Int) (w : World) : Calls Try.prog 32 #[.int .i64 v] w fun e w' => e = .returned (.bool (decide (1 ≤ v ∧ v ≤ 40))) ∧ w' = w := by
  by_cases h1 : 1 ≤ v
  · by_cases h2 : v ≤ 40
    · go_enter Try.func32, Try.ntmps32
      go_wp2
      go_ret
      exact ⟨ret_bool (by simp; omega), rfl⟩
    · go_enter Try.func32, Try.ntmps32
      go_wp2
      go_ret
      exact ⟨ret_bool (by simp; omega), rfl⟩
  · go_enter Try.func32, Try.ntmps32
    go_wp2
    go_ret
    exact ⟨ret_bool (by simp; omega), rfl⟩
end Go.Proofs.Ythnhemnlapgnpaa
