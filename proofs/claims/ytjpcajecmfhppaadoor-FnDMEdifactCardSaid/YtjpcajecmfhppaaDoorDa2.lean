/-
  WALKS: parseTwoBytes, the tables of C40, decodeC40Segment.
-/
import Derived.Test.YtjpcajecmfhppaaDoorDa1
namespace Go.Proofs.YtjpcajecmfhppaaDoor
open Go.RowKit

/-- As it was, but for block g. -/
theorem onl_cells {w : World} {g : Nat} (i j k : Nat) (a b c : Value) : Onl g w (((w.setCell ⟨g, i, none⟩ a).setCell ⟨g, j, none⟩ b).setCell ⟨g, k, none⟩ c) := (((Onl.refl g w).put i a).put j b).put k c
set_option maxRecDepth 100000 in
theorem parse2_any (a b c g : Nat) (x y z : Value) (w : World) (ha : a < 40) (hb : b < 40) (hc : c < 40) (hg : Blk w g 3 #[x, y, z]) :
    Calls Tryd.prog 47 #[.int .i64 (((1600 * a + 40 * b + c + 1) / 256 : Nat) : Int), .int .i64 (((1600 * a + 40 * b + c + 1) % 256 : Nat) : Int), .slice (some ⟨g, 0, none⟩) 3 3] w fun e w' => e = .returned (.tuple #[]) ∧ Blk w' g 3 #[.int .i64 (a : Int), .int .i64 (b : Int), .int .i64 (c : Int)] ∧ Onl g w w' := by
  obtain ⟨N, hN⟩ : ∃ N, N = 1600 * a + 40 * b + c + 1 := ⟨_, rfl⟩
  rw [← hN]
  obtain ⟨p, hp⟩ : ∃ p, p = N / 256 := ⟨_, rfl⟩
  obtain ⟨q, hq⟩ : ∃ q, q = N % 256 := ⟨_, rfl⟩
  obtain ⟨s, hs⟩ : ∃ s, s = p * 256 := ⟨_, rfl⟩
  obtain ⟨u, hu⟩ : ∃ u, u = N - 1 := ⟨_, rfl⟩
  obtain ⟨m, hm⟩ : ∃ m, m = 1600 * a := ⟨_, rfl⟩
  obtain ⟨r, hr⟩ : ∃ r, r = 40 * b + c := ⟨_, rfl⟩
  obtain ⟨m2, hm2⟩ : ∃ m, m = 40 * b := ⟨_, rfl⟩
  rw [← hp, ← hq]
  have e1 : (p : Int) * 256 = (s : Int) := by omega
  have e2 : (s : Int) + (q : Int) - 1 = (u : Int) := by omega
  have e3 : Int.tdiv (u : Int) 1600 = (a : Int) := by rw [Int.tdiv_eq_ediv_of_nonneg (by omega)]; omega
  have e4 : (u : Int) / 1600 = (a : Int) := by omega
  have e5 : (a : Int) * 1600 = (m : Int) := by omega
  have e6 : (u : Int) - (m : Int) = (r : Int) := by omega
  have e7 : Int.tdiv (r : Int) 40 = (b : Int) := by rw [Int.tdiv_eq_ediv_of_nonneg (by omega)]; omega
  have e8 : (r : Int) / 40 = (b : Int) := by omega
  have e9 : (b : Int) * 40 = (m2 : Int) := by omega
  have e10 : (r : Int) - (m2 : Int) = (c : Int) := by omega
  have b1 : p < 256 ∧ q < 256 ∧ s < 65536 ∧ u < 65536 ∧ m < 65536 ∧ r < 65536 ∧ m2 < 65536 := by omega
  have HG := Lib.hid hg
  have f0 : w.frozen? ⟨g, 0, none⟩ = false := hg.frozen _
  have f1 : w.frozen? ⟨g, 1, none⟩ = false := hg.frozen _
  have f2 : w.frozen? ⟨g, 2, none⟩ = false := hg.frozen _
  have c0 : w.cell? ⟨g, 0, none⟩ = some x := by rw [hg.cell]; rfl
  have c1 : w.cell? ⟨g, 1, none⟩ = some y := by rw [hg.cell]; rfl
  have c2 : w.cell? ⟨g, 2, none⟩ = some z := by rw [hg.cell]; rfl
  clear hN hp hq hs hu hm hr hm2 hg
  go_enter Tryd.func47, Tryd.ntmps47
  go_wp2_with fail
  refine bodyPost_end (results_none rfl _ _ _) rfl ?_
  refine ⟨rfl, ?_, onl_cells 0 1 2 _ _ _⟩
  exact ((HG.out.put 0 _).put 1 _).put 2 _
def basL : List Nat := (List.range 40).map fun v => if v < 3 then 42 else bas v
def sh2L : List Nat := (List.range 27).map sh2
theorem basL_at : ∀ v, v < 40 → 3 ≤ v → basL[v]? = some (bas v) := by decide
theorem sh2L_at : ∀ v, v < 27 → sh2L[v]? = some (sh2 v) := by decide
theorem bas_lt (v : Nat) (h : v < 40) : bas v < 128 := by unfold bas; split <;> (try split) <;> omega
theorem sh2_lt (v : Nat) (h : v < 27) : sh2 v < 128 := by unfold sh2; split <;> (try split) <;> omega
theorem list_build1 {P : Program} {w : World} {ops : Array Oper} {rest : List Oper} {o : Oper} {a : Act} {Q : Exit → Act → World → Prop} (hgd : o.guard = none) (t : TypeId) (n : Nat) (ps : Array (Nat × Operand)) (ho : o.op = .buildSlice t n ps) (v : Value) (w' : World)
    (hrun : (Instr.buildSlice t n (ps.map fun x => (x.1, a.eval x.2))).run P w = .ok v w') (h : wpList P ops Q rest (a.put o.dst v) w') : wpList P ops Q (o :: rest) a w :=
  wpList_plain hgd fun _ hK => by
    unfold Oper.wp execOp
    simp only [ho, Sem.run_bind, Sem.run_pure, hrun, Result.andThen_ok]
    exact hK _ _ h
set_option maxRecDepth 100000 in
theorem bas_any (w : World) : Calls Tryd.prog 48 #[] w fun e w' => ∃ g, e = .returned (.slice (some ⟨g, 0, none⟩) 40 40) ∧ Blk w' g 5 (wv8 basL).toArray ∧ Below w.heap.size w w' := by
  go_enter Tryd.func48, Tryd.ntmps48
  go_wp2_with (with_reducible refine stop_at (o := ⟨some 1, _, _, _, _, _⟩) ?_)
  refine Lib.hid ?_
  refine list_build1 rfl _ _ _ rfl (.slice (some ⟨w.heap.size, 0, none⟩) 40 40) (w.alloc (.cells (wv8 basL).toArray 5)) (by kernel_rfl) ?_
  go_wp2
  go_ret
  exact ⟨_, rfl, Blk.fresh w _ _, bal (brf w) _⟩
set_option maxRecDepth 100000 in
theorem sh2_any (w : World) : Calls Tryd.prog 49 #[] w fun e w' => ∃ g, e = .returned (.slice (some ⟨g, 0, none⟩) 27 27) ∧ Blk w' g 5 (wv8 sh2L).toArray ∧ Below w.heap.size w w' := by
  go_enter Tryd.func49, Tryd.ntmps49
  go_wp2_with (with_reducible refine stop_at (o := ⟨some 1, _, _, _, _, _⟩) ?_)
  refine Lib.hid ?_
  refine list_build1 rfl _ _ _ rfl (.slice (some ⟨w.heap.size, 0, none⟩) 27 27) (w.alloc (.cells (wv8 sh2L).toArray 5)) (by kernel_rfl) ?_
  go_wp2
  go_ret
  exact ⟨_, rfl, Blk.fresh w _ _, bal (brf w) _⟩
end Go.Proofs.YtjpcajecmfhppaaDoor
