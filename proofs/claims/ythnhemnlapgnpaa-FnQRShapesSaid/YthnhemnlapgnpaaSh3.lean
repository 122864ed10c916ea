/-
  WALKS: the standard's numbers (spec) of versions and levels: error correction.
-/
import Derived.Test.YthnhemnlapgnpaaSh1
import Derived.Test.YthnhemnlapgnpaaFill
import Derived.Great.BuildSlice
namespace Go.Proofs.Ythnhemnlapgnpaa
open Go.RowKit

/-- How many blocks. -/
def numOf (v l : Nat) : Nat := ((grpOf v l).map (·.1)).sum
def zsE (l : Nat) : List Int := (List.range 40).map fun i => ((ecOf (i + 1) l : Nat) : Int)
def zsB (l : Nat) : List Int := (List.range 40).map fun i => ((numOf (i + 1) l : Nat) : Int)
def arrZ (zs : List Int) : Array Value := (zs.map (Value.int .i64)).toArray
theorem arr_size : (Try.prog.info? 134).map (·.size) = some 40 := by kernel_rfl
theorem arr_zero : ((Try.prog.info? 134).bind (·.zero)).map (·.cells.size) = some 40 := by kernel_rfl
theorem int_size : (Try.prog.info? 3).map (·.size) = some 1 := by kernel_rfl
theorem arrZ_size (zs : List Int) : (arrZ zs).size = zs.length := by simp [arrZ]
theorem arrZ_one (zs : List Int) : (arrZ zs).all (·.oneCell') = true := by
  rw [Array.all_eq_true]
  intro i hi
  simp [arrZ, Value.oneCell']
theorem cells_back {fn : Func} {t1 t2 : Tmp} {ty : TypeId} (h : fn.results = #[.cell t1 ty, .cell t2 ty]) (tmps : Array Value) (P : Program) (w : World) (g1 g2 : Nat) (h1 : tmps.getD t1 undef = .pointer (some ⟨g1, 0, none⟩)) (h2 : tmps.getD t2 undef = .pointer (some ⟨g2, 0, none⟩))
    (c1 c2 : Array Value) (l1 : (loadVar ty ⟨g1, 0, none⟩).run P w = .ok (.agg c1) w) (l2 : (loadVar ty ⟨g2, 0, none⟩).run P w = .ok (.agg c2) w) :
    (results fn tmps).run P w = .ok (.tuple #[.agg c1, .agg c2]) w := by
  rw [Array.getD_eq_getD_getElem?] at h1 h2
  simp [results, h, h1, h2, asAddr, l1, l2]
set_option maxRecDepth 100000 in
set_option maxHeartbeats 4000000 in
theorem specCor1 (w : World) : Calls Try.prog 83 #[.int .i64 1] w fun e w' => e = .returned (.tuple #[.agg (arrZ (zsE 1)), .agg (arrZ (zsB 1))]) ∧ Below w.heap.size w w' := by
  go_enter Try.func83, Try.ntmps83
  go_wp2_with (with_reducible refine stop_at (o := ⟨some 7, _, _, _, _, _⟩) ?_)
  refine Lib.hid ?_
  refine wpList_buildFlatArrTo rfl 134 3 40 _ rfl .i64 (zsE 1) (some 7) rfl Try.underlying134 int_size (by kernel_rfl) (by kernel_rfl) ?_
  refine wpList_buildFlatArrTo rfl 134 3 40 _ rfl .i64 (zsB 1) (some 8) rfl Try.underlying134 int_size (by kernel_rfl) (by kernel_rfl) ?_
  have hE : (zsE 1).length = 40 := by simp [zsE]
  have hB : (zsB 1).length = 40 := by simp [zsB]
  have hE2 := arrZ_size (zsE 1)
  have hB2 := arrZ_size (zsB 1)
  have hE3 := arrZ_one (zsE 1)
  have hB3 := arrZ_one (zsB 1)
  rw [hE] at hE2
  rw [hB] at hB2
  change wpList _ _ _ _ (Act.put (Act.put _ _ (Value.agg (arrZ (zsE 1)))) _ (Value.agg (arrZ (zsB 1)))) _
  generalize hcE : arrZ (zsE 1) = cE at *
  generalize hcB : arrZ (zsB 1) = cB at *
  obtain ⟨z, hz⟩ : ∃ z : Array Value, z = rep 40 (.int .i64 0) := ⟨_, rfl⟩
  have hb0 : Blk ((w.alloc (Obj.cells z 134)).alloc (Obj.cells z 134)) w.heap.size 134 z := (Blk.fresh w _ z).alloc _
  have hb1 : Blk ((w.alloc (Obj.cells z 134)).alloc (Obj.cells z 134)) (w.heap.size + 1) 134 z := Blk.fresh' (by simp)
  have hbl : Below w.heap.size w ((w.alloc (Obj.cells z 134)).alloc (Obj.cells z 134)) := bal (bal (brf w) _) _
  have hzs : z.size = 40 := by rw [hz]; simp [rep]
  have hzz : z = #[Value.int IntKind.i64 0, Value.int IntKind.i64 0, Value.int IntKind.i64 0, Value.int IntKind.i64 0,
          Value.int IntKind.i64 0, Value.int IntKind.i64 0, Value.int IntKind.i64 0, Value.int IntKind.i64 0,
          Value.int IntKind.i64 0, Value.int IntKind.i64 0, Value.int IntKind.i64 0, Value.int IntKind.i64 0,
          Value.int IntKind.i64 0, Value.int IntKind.i64 0, Value.int IntKind.i64 0, Value.int IntKind.i64 0,
          Value.int IntKind.i64 0, Value.int IntKind.i64 0, Value.int IntKind.i64 0, Value.int IntKind.i64 0,
          Value.int IntKind.i64 0, Value.int IntKind.i64 0, Value.int IntKind.i64 0, Value.int IntKind.i64 0,
          Value.int IntKind.i64 0, Value.int IntKind.i64 0, Value.int IntKind.i64 0, Value.int IntKind.i64 0,
          Value.int IntKind.i64 0, Value.int IntKind.i64 0, Value.int IntKind.i64 0, Value.int IntKind.i64 0,
          Value.int IntKind.i64 0, Value.int IntKind.i64 0, Value.int IntKind.i64 0, Value.int IntKind.i64 0,
          Value.int IntKind.i64 0, Value.int IntKind.i64 0, Value.int IntKind.i64 0, Value.int IntKind.i64 0] := by rw [hz]; rfl
  rw [← hzz]
  clear hz hzz
  generalize ((w.alloc (Obj.cells z 134)).alloc (Obj.cells z 134)) = w1 at *
  refine wpList_store_rowTo rfl 134 _ _ rfl rfl w.heap.size cE rfl rfl 134 z hb0 (by rw [hE2]; exact arr_size) (by rw [hzs, hE2]) hE3 ?_
  refine wpList_store_rowTo rfl 134 _ _ rfl rfl (w.heap.size + 1) cB rfl rfl 134 z ((setRow_other w1 _ _ cE (by omega)).trans hb1) (by rw [hB2]; exact arr_size) (by rw [hzs, hB2]) hB3 ?_
  have k0 : Blk ((w1.setRow w.heap.size cE).setRow (w.heap.size + 1) cB) w.heap.size 134 cE := (setRow_other _ _ _ cB (by omega)).trans (setRow_heap w1 _ _ cE _ _ hb0)
  have k1 : Blk ((w1.setRow w.heap.size cE).setRow (w.heap.size + 1) cB) (w.heap.size + 1) 134 cB := setRow_heap _ _ _ cB _ _ ((setRow_other w1 _ _ cE (by omega)).trans hb1)
  have kb : Below w.heap.size w ((w1.setRow w.heap.size cE).setRow (w.heap.size + 1) cB) := below_setRow (below_setRow hbl (Nat.le_refl _) _) (by omega) _
  go_wp2
  refine bodyPost_ret (cells_back rfl _ _ _ w.heap.size (w.heap.size + 1) rfl rfl cE cB (run_loadVar_row _ _ _ _ _ _ _ k0 Try.underlying134 rfl (by rw [hE2]; exact arr_size)) (run_loadVar_row _ _ _ _ _ _ _ k1 Try.underlying134 rfl (by rw [hB2]; exact arr_size))) rfl ?_
  exact ⟨by rw [hcE, hcB], kb⟩
set_option maxRecDepth 100000 in
set_option maxHeartbeats 4000000 in
theorem specCor0 (w : World) : Calls Try.prog 83 #[.int .i64 0] w fun e w' => e = .returned (.tuple #[.agg (arrZ (zsE 0)), .agg (arrZ (zsB 0))]) ∧ Below w.heap.size w w' := by
  go_enter Try.func83, Try.ntmps83
  go_wp2_with (with_reducible refine stop_at (o := ⟨some 11, _, _, _, _, _⟩) ?_)
  refine Lib.hid ?_
  refine wpList_buildFlatArrTo rfl 134 3 40 _ rfl .i64 (zsE 0) (some 11) rfl Try.underlying134 int_size (by kernel_rfl) (by kernel_rfl) ?_
  refine wpList_buildFlatArrTo rfl 134 3 40 _ rfl .i64 (zsB 0) (some 12) rfl Try.underlying134 int_size (by kernel_rfl) (by kernel_rfl) ?_
  have hE : (zsE 0).length = 40 := by simp [zsE]
  have hB : (zsB 0).length = 40 := by simp [zsB]
  have hE2 := arrZ_size (zsE 0)
  have hB2 := arrZ_size (zsB 0)
  have hE3 := arrZ_one (zsE 0)
  have hB3 := arrZ_one (zsB 0)
  rw [hE] at hE2
  rw [hB] at hB2
  change wpList _ _ _ _ (Act.put (Act.put _ _ (Value.agg (arrZ (zsE 0)))) _ (Value.agg (arrZ (zsB 0)))) _
  generalize hcE : arrZ (zsE 0) = cE at *
  generalize hcB : arrZ (zsB 0) = cB at *
  obtain ⟨z, hz⟩ : ∃ z : Array Value, z = rep 40 (.int .i64 0) := ⟨_, rfl⟩
  have hb0 : Blk ((w.alloc (Obj.cells z 134)).alloc (Obj.cells z 134)) w.heap.size 134 z := (Blk.fresh w _ z).alloc _
  have hb1 : Blk ((w.alloc (Obj.cells z 134)).alloc (Obj.cells z 134)) (w.heap.size + 1) 134 z := Blk.fresh' (by simp)
  have hbl : Below w.heap.size w ((w.alloc (Obj.cells z 134)).alloc (Obj.cells z 134)) := bal (bal (brf w) _) _
  have hzs : z.size = 40 := by rw [hz]; simp [rep]
  have hzz : z = #[Value.int IntKind.i64 0, Value.int IntKind.i64 0, Value.int IntKind.i64 0, Value.int IntKind.i64 0,
          Value.int IntKind.i64 0, Value.int IntKind.i64 0, Value.int IntKind.i64 0, Value.int IntKind.i64 0,
          Value.int IntKind.i64 0, Value.int IntKind.i64 0, Value.int IntKind.i64 0, Value.int IntKind.i64 0,
          Value.int IntKind.i64 0, Value.int IntKind.i64 0, Value.int IntKind.i64 0, Value.int IntKind.i64 0,
          Value.int IntKind.i64 0, Value.int IntKind.i64 0, Value.int IntKind.i64 0, Value.int IntKind.i64 0,
          Value.int IntKind.i64 0, Value.int IntKind.i64 0, Value.int IntKind.i64 0, Value.int IntKind.i64 0,
          Value.int IntKind.i64 0, Value.int IntKind.i64 0, Value.int IntKind.i64 0, Value.int IntKind.i64 0,
          Value.int IntKind.i64 0, Value.int IntKind.i64 0, Value.int IntKind.i64 0, Value.int IntKind.i64 0,
          Value.int IntKind.i64 0, Value.int IntKind.i64 0, Value.int IntKind.i64 0, Value.int IntKind.i64 0,
          Value.int IntKind.i64 0, Value.int IntKind.i64 0, Value.int IntKind.i64 0, Value.int IntKind.i64 0] := by rw [hz]; rfl
  rw [← hzz]
  clear hz hzz
  generalize ((w.alloc (Obj.cells z 134)).alloc (Obj.cells z 134)) = w1 at *
  refine wpList_store_rowTo rfl 134 _ _ rfl rfl w.heap.size cE rfl rfl 134 z hb0 (by rw [hE2]; exact arr_size) (by rw [hzs, hE2]) hE3 ?_
  refine wpList_store_rowTo rfl 134 _ _ rfl rfl (w.heap.size + 1) cB rfl rfl 134 z ((setRow_other w1 _ _ cE (by omega)).trans hb1) (by rw [hB2]; exact arr_size) (by rw [hzs, hB2]) hB3 ?_
  have k0 : Blk ((w1.setRow w.heap.size cE).setRow (w.heap.size + 1) cB) w.heap.size 134 cE := (setRow_other _ _ _ cB (by omega)).trans (setRow_heap w1 _ _ cE _ _ hb0)
  have k1 : Blk ((w1.setRow w.heap.size cE).setRow (w.heap.size + 1) cB) (w.heap.size + 1) 134 cB := setRow_heap _ _ _ cB _ _ ((setRow_other w1 _ _ cE (by omega)).trans hb1)
  have kb : Below w.heap.size w ((w1.setRow w.heap.size cE).setRow (w.heap.size + 1) cB) := below_setRow (below_setRow hbl (Nat.le_refl _) _) (by omega) _
  go_wp2
  refine bodyPost_ret (cells_back rfl _ _ _ w.heap.size (w.heap.size + 1) rfl rfl cE cB (run_loadVar_row _ _ _ _ _ _ _ k0 Try.underlying134 rfl (by rw [hE2]; exact arr_size)) (run_loadVar_row _ _ _ _ _ _ _ k1 Try.underlying134 rfl (by rw [hB2]; exact arr_size))) rfl ?_
  exact ⟨by rw [hcE, hcB], kb⟩
set_option maxRecDepth 100000 in
set_option maxHeartbeats 4000000 in
theorem specCor3 (w : World) : Calls Try.prog 83 #[.int .i64 3] w fun e w' => e = .returned (.tuple #[.agg (arrZ (zsE 3)), .agg (arrZ (zsB 3))]) ∧ Below w.heap.size w w' := by
  go_enter Try.func83, Try.ntmps83
  go_wp2_with (with_reducible refine stop_at (o := ⟨some 15, _, _, _, _, _⟩) ?_)
  refine Lib.hid ?_
  refine wpList_buildFlatArrTo rfl 134 3 40 _ rfl .i64 (zsE 3) (some 15) rfl Try.underlying134 int_size (by kernel_rfl) (by kernel_rfl) ?_
  refine wpList_buildFlatArrTo rfl 134 3 40 _ rfl .i64 (zsB 3) (some 16) rfl Try.underlying134 int_size (by kernel_rfl) (by kernel_rfl) ?_
  have hE : (zsE 3).length = 40 := by simp [zsE]
  have hB : (zsB 3).length = 40 := by simp [zsB]
  have hE2 := arrZ_size (zsE 3)
  have hB2 := arrZ_size (zsB 3)
  have hE3 := arrZ_one (zsE 3)
  have hB3 := arrZ_one (zsB 3)
  rw [hE] at hE2
  rw [hB] at hB2
  change wpList _ _ _ _ (Act.put (Act.put _ _ (Value.agg (arrZ (zsE 3)))) _ (Value.agg (arrZ (zsB 3)))) _
  generalize hcE : arrZ (zsE 3) = cE at *
  generalize hcB : arrZ (zsB 3) = cB at *
  obtain ⟨z, hz⟩ : ∃ z : Array Value, z = rep 40 (.int .i64 0) := ⟨_, rfl⟩
  have hb0 : Blk ((w.alloc (Obj.cells z 134)).alloc (Obj.cells z 134)) w.heap.size 134 z := (Blk.fresh w _ z).alloc _
  have hb1 : Blk ((w.alloc (Obj.cells z 134)).alloc (Obj.cells z 134)) (w.heap.size + 1) 134 z := Blk.fresh' (by simp)
  have hbl : Below w.heap.size w ((w.alloc (Obj.cells z 134)).alloc (Obj.cells z 134)) := bal (bal (brf w) _) _
  have hzs : z.size = 40 := by rw [hz]; simp [rep]
  have hzz : z = #[Value.int IntKind.i64 0, Value.int IntKind.i64 0, Value.int IntKind.i64 0, Value.int IntKind.i64 0,
          Value.int IntKind.i64 0, Value.int IntKind.i64 0, Value.int IntKind.i64 0, Value.int IntKind.i64 0,
          Value.int IntKind.i64 0, Value.int IntKind.i64 0, Value.int IntKind.i64 0, Value.int IntKind.i64 0,
          Value.int IntKind.i64 0, Value.int IntKind.i64 0, Value.int IntKind.i64 0, Value.int IntKind.i64 0,
          Value.int IntKind.i64 0, Value.int IntKind.i64 0, Value.int IntKind.i64 0, Value.int IntKind.i64 0,
          Value.int IntKind.i64 0, Value.int IntKind.i64 0, Value.int IntKind.i64 0, Value.int IntKind.i64 0,
          Value.int IntKind.i64 0, Value.int IntKind.i64 0, Value.int IntKind.i64 0, Value.int IntKind.i64 0,
          Value.int IntKind.i64 0, Value.int IntKind.i64 0, Value.int IntKind.i64 0, Value.int IntKind.i64 0,
          Value.int IntKind.i64 0, Value.int IntKind.i64 0, Value.int IntKind.i64 0, Value.int IntKind.i64 0,
          Value.int IntKind.i64 0, Value.int IntKind.i64 0, Value.int IntKind.i64 0, Value.int IntKind.i64 0] := by rw [hz]; rfl
  rw [← hzz]
  clear hz hzz
  generalize ((w.alloc (Obj.cells z 134)).alloc (Obj.cells z 134)) = w1 at *
  refine wpList_store_rowTo rfl 134 _ _ rfl rfl w.heap.size cE rfl rfl 134 z hb0 (by rw [hE2]; exact arr_size) (by rw [hzs, hE2]) hE3 ?_
  refine wpList_store_rowTo rfl 134 _ _ rfl rfl (w.heap.size + 1) cB rfl rfl 134 z ((setRow_other w1 _ _ cE (by omega)).trans hb1) (by rw [hB2]; exact arr_size) (by rw [hzs, hB2]) hB3 ?_
  have k0 : Blk ((w1.setRow w.heap.size cE).setRow (w.heap.size + 1) cB) w.heap.size 134 cE := (setRow_other _ _ _ cB (by omega)).trans (setRow_heap w1 _ _ cE _ _ hb0)
  have k1 : Blk ((w1.setRow w.heap.size cE).setRow (w.heap.size + 1) cB) (w.heap.size + 1) 134 cB := setRow_heap _ _ _ cB _ _ ((setRow_other w1 _ _ cE (by omega)).trans hb1)
  have kb : Below w.heap.size w ((w1.setRow w.heap.size cE).setRow (w.heap.size + 1) cB) := below_setRow (below_setRow hbl (Nat.le_refl _) _) (by omega) _
  go_wp2
  refine bodyPost_ret (cells_back rfl _ _ _ w.heap.size (w.heap.size + 1) rfl rfl cE cB (run_loadVar_row _ _ _ _ _ _ _ k0 Try.underlying134 rfl (by rw [hE2]; exact arr_size)) (run_loadVar_row _ _ _ _ _ _ _ k1 Try.underlying134 rfl (by rw [hB2]; exact arr_size))) rfl ?_
  exact ⟨by rw [hcE, hcB], kb⟩
set_option maxRecDepth 100000 in
set_option maxHeartbeats 4000000 in
theorem specCor2 (w : World) : Calls Try.prog 83 #[.int .i64 2] w fun e w' => e = .returned (.tuple #[.agg (arrZ (zsE 2)), .agg (arrZ (zsB 2))]) ∧ Below w.heap.size w w' := by
  go_enter Try.func83, Try.ntmps83
  go_wp2_with (with_reducible refine stop_at (o := ⟨some 17, _, _, _, _, _⟩) ?_)
  refine Lib.hid ?_
  refine wpList_buildFlatArrTo rfl 134 3 40 _ rfl .i64 (zsE 2) (some 17) rfl Try.underlying134 int_size (by kernel_rfl) (by kernel_rfl) ?_
  refine wpList_buildFlatArrTo rfl 134 3 40 _ rfl .i64 (zsB 2) (some 18) rfl Try.underlying134 int_size (by kernel_rfl) (by kernel_rfl) ?_
  have hE : (zsE 2).length = 40 := by simp [zsE]
  have hB : (zsB 2).length = 40 := by simp [zsB]
  have hE2 := arrZ_size (zsE 2)
  have hB2 := arrZ_size (zsB 2)
  have hE3 := arrZ_one (zsE 2)
  have hB3 := arrZ_one (zsB 2)
  rw [hE] at hE2
  rw [hB] at hB2
  change wpList _ _ _ _ (Act.put (Act.put _ _ (Value.agg (arrZ (zsE 2)))) _ (Value.agg (arrZ (zsB 2)))) _
  generalize hcE : arrZ (zsE 2) = cE at *
  generalize hcB : arrZ (zsB 2) = cB at *
  obtain ⟨z, hz⟩ : ∃ z : Array Value, z = rep 40 (.int .i64 0) := ⟨_, rfl⟩
  have hb0 : Blk ((w.alloc (Obj.cells z 134)).alloc (Obj.cells z 134)) w.heap.size 134 z := (Blk.fresh w _ z).alloc _
  have hb1 : Blk ((w.alloc (Obj.cells z 134)).alloc (Obj.cells z 134)) (w.heap.size + 1) 134 z := Blk.fresh' (by simp)
  have hbl : Below w.heap.size w ((w.alloc (Obj.cells z 134)).alloc (Obj.cells z 134)) := bal (bal (brf w) _) _
  have hzs : z.size = 40 := by rw [hz]; simp [rep]
  have hzz : z = #[Value.int IntKind.i64 0, Value.int IntKind.i64 0, Value.int IntKind.i64 0, Value.int IntKind.i64 0,
          Value.int IntKind.i64 0, Value.int IntKind.i64 0, Value.int IntKind.i64 0, Value.int IntKind.i64 0,
          Value.int IntKind.i64 0, Value.int IntKind.i64 0, Value.int IntKind.i64 0, Value.int IntKind.i64 0,
          Value.int IntKind.i64 0, Value.int IntKind.i64 0, Value.int IntKind.i64 0, Value.int IntKind.i64 0,
          Value.int IntKind.i64 0, Value.int IntKind.i64 0, Value.int IntKind.i64 0, Value.int IntKind.i64 0,
          Value.int IntKind.i64 0, Value.int IntKind.i64 0, Value.int IntKind.i64 0, Value.int IntKind.i64 0,
          Value.int IntKind.i64 0, Value.int IntKind.i64 0, Value.int IntKind.i64 0, Value.int IntKind.i64 0,
          Value.int IntKind.i64 0, Value.int IntKind.i64 0, Value.int IntKind.i64 0, Value.int IntKind.i64 0,
          Value.int IntKind.i64 0, Value.int IntKind.i64 0, Value.int IntKind.i64 0, Value.int IntKind.i64 0,
          Value.int IntKind.i64 0, Value.int IntKind.i64 0, Value.int IntKind.i64 0, Value.int IntKind.i64 0] := by rw [hz]; rfl
  rw [← hzz]
  clear hz hzz
  generalize ((w.alloc (Obj.cells z 134)).alloc (Obj.cells z 134)) = w1 at *
  refine wpList_store_rowTo rfl 134 _ _ rfl rfl w.heap.size cE rfl rfl 134 z hb0 (by rw [hE2]; exact arr_size) (by rw [hzs, hE2]) hE3 ?_
  refine wpList_store_rowTo rfl 134 _ _ rfl rfl (w.heap.size + 1) cB rfl rfl 134 z ((setRow_other w1 _ _ cE (by omega)).trans hb1) (by rw [hB2]; exact arr_size) (by rw [hzs, hB2]) hB3 ?_
  have k0 : Blk ((w1.setRow w.heap.size cE).setRow (w.heap.size + 1) cB) w.heap.size 134 cE := (setRow_other _ _ _ cB (by omega)).trans (setRow_heap w1 _ _ cE _ _ hb0)
  have k1 : Blk ((w1.setRow w.heap.size cE).setRow (w.heap.size + 1) cB) (w.heap.size + 1) 134 cB := setRow_heap _ _ _ cB _ _ ((setRow_other w1 _ _ cE (by omega)).trans hb1)
  have kb : Below w.heap.size w ((w1.setRow w.heap.size cE).setRow (w.heap.size + 1) cB) := below_setRow (below_setRow hbl (Nat.le_refl _) _) (by omega) _
  go_wp2
  refine bodyPost_ret (cells_back rfl _ _ _ w.heap.size (w.heap.size + 1) rfl rfl cE cB (run_loadVar_row _ _ _ _ _ _ _ k0 Try.underlying134 rfl (by rw [hE2]; exact arr_size)) (run_loadVar_row _ _ _ _ _ _ _ k1 Try.underlying134 rfl (by rw [hB2]; exact arr_size))) rfl ?_
  exact ⟨by rw [hcE, hcB], kb⟩
theorem specCor (l : Nat) (w : World) (hl : l < 4) : Calls Try.prog 83 #[.int .i64 (l : Nat)] w fun e w' => e = .returned (.tuple #[.agg (arrZ (zsE l)), .agg (arrZ (zsB l))]) ∧ Below w.heap.size w w' := by
  have h4 : l = 0 ∨ l = 1 ∨ l = 2 ∨ l = 3 := by omega
  rcases h4 with rfl | rfl | rfl | rfl
  · exact specCor0 w
  · exact specCor1 w
  · exact specCor2 w
  · exact specCor3 w
end Go.Proofs.Ythnhemnlapgnpaa
