/-
  GROUND: lists of numbers as values of type int.
-/
import Derived.Test.YtgihmnecllanfaaBase
namespace Go.Proofs.Ytgihmnecllanfaa
open Go.RowKit

def nvl (l : List Nat) : List Value := l.map fun n : Nat => Value.int .i64 (n : Int)
theorem nvl_len (l : List Nat) : (nvl l).length = l.length := by simp [nvl]
theorem nvl_at (l : List Nat) (i : Nat) (h : i < l.length) : (nvl l)[i]? = some (.int .i64 ((l[i] : Nat) : Int)) := by simp [nvl, h]
theorem nvl_getD (l : List Nat) (i : Nat) (h : i < l.length) : (nvl l).toArray[i]? = some (.int .i64 ((l.getD i 0 : Nat) : Int)) := by
  rw [List.getElem?_toArray, nvl_at l i h, List.getD, List.getElem?_eq_getElem h]; rfl
theorem nvl_one (l : List Nat) : ∀ u ∈ nvl l, u.oneCell' = true := fun u hu => by
  simp only [nvl, List.mem_map] at hu
  obtain ⟨x, _, rfl⟩ := hu
  rfl
theorem nvl_set (l : List Nat) (i v : Nat) : (nvl l).toArray.setIfInBounds i (.int .i64 (v : Int)) = (nvl (l.set i v)).toArray := by simp [nvl, List.map_set]
theorem nvl_rep (n : Nat) : rep n (.int .i64 0) = (nvl (List.replicate n 0)).toArray := by simp [rep, nvl]
theorem info_int : (Try.prog.info? 3).map (fun i => (i.zero, i.size, i.bytes)) = some (some (.int .i64 0), 1, 8) := by kernel_rfl
theorem mk_ints (n : Nat) (W : World) (hn : n ≤ 65536) : (Instr.makeSlice 24 (.int .i64 (n : Int)) (.int .i64 (n : Int))).run Try.prog W =
    .ok (.slice (some ⟨W.heap.size, 0, none⟩) n n) (W.alloc (.cells (nvl (List.replicate n 0)).toArray 3)) := by
  have h := run_mk (P := Try.prog) 24 3 (.int .i64 0) 8 Try.underlying24 info_int rfl n (by omega) (by omega) W
  rw [nvl_rep] at h
  exact h
end Go.Proofs.Ytgihmnecllanfaa
