/-
  GROUND: rows of bools that are made and filled.
-/
import Derived.Test.YtjkfkkenaiodoaaRo0
import Derived.Test.YtjkfkkenaiodoaaFill
namespace Go.Proofs.Ytjkfkkenaiodoaa
open Go.RowKit

theorem bv_set (l : List Bool) (i : Nat) (b : Bool) : (bv l).toArray.setIfInBounds i (.bool b) = (bv (l.set i b)).toArray := by simp [bv, List.map_set]
theorem bv_rep (n : Nat) (b : Bool) : rep n (.bool b) = (bv (List.replicate n b)).toArray := by simp [rep, bv]
theorem info_bool : (Try.prog.info? 4).map (fun i => (i.zero, i.size, i.bytes)) = some (some (.bool false), 1, 1) := by kernel_rfl
theorem info_bools : (Try.prog.info? 37).map (fun i => (i.zero, i.size, i.bytes)) = some (some (.slice none 0 0), 1, 24) := by kernel_rfl
theorem mk_bools (n : Nat) (W : World) (hn : n ≤ 65536) : (Instr.makeSlice 37 (.int .i64 (n : Int)) (.int .i64 (n : Int))).run Try.prog W =
    .ok (.slice (some ⟨W.heap.size, 0, none⟩) n n) (W.alloc (.cells (bv (List.replicate n false)).toArray 4)) := by
  have h := run_mk (P := Try.prog) 37 4 (.bool false) 1 Try.underlying37 info_bool rfl n (by omega) (by omega) W
  rw [bv_rep] at h
  exact h
/-- Values, and then nil slices. -/
def padV (vs : List Value) (N : Nat) : List Value := vs ++ List.replicate (N - vs.length) (Value.slice none 0 0)
theorem padV_set (vs : List Value) (N : Nat) (u : Value) (h : vs.length < N) : (padV vs N).toArray.setIfInBounds vs.length u = (padV (vs ++ [u]) N).toArray := by
  unfold padV
  have e : N - vs.length = (N - (vs.length + 1)) + 1 := by omega
  rw [e, List.replicate_succ]
  simp
theorem padV_at (vs : List Value) (N : Nat) (h : vs.length < N) : (padV vs N).toArray[vs.length]? = some (Value.slice none 0 0) := by
  unfold padV
  rw [List.getElem?_toArray, List.getElem?_append_right (Nat.le_refl _), Nat.sub_self, List.getElem?_replicate_of_lt (by omega)]
theorem getD_snoc_lo (vs : List Value) (u d : Value) (i : Nat) (h : i < vs.length) : (vs ++ [u]).getD i d = vs.getD i d := by
  rw [List.getD, List.getElem?_append_left h, List.getD]
theorem getD_snoc (vs : List Value) (u d : Value) : (vs ++ [u]).getD vs.length d = u := by
  rw [List.getD, List.getElem?_concat_length]; rfl
theorem padV_last (vs : List Value) (N : Nat) (u : Value) : (padV (vs ++ [u]) N).toArray[vs.length]? = some u := by
  unfold padV
  rw [List.getElem?_toArray, List.getElem?_append_left (by simp), List.getElem?_concat_length]
theorem padV_len (vs : List Value) (N : Nat) (h : vs.length ≤ N) : (padV vs N).length = N := by unfold padV; simp; omega
theorem padV_full (vs : List Value) : padV vs vs.length = vs := by simp [padV]

/-- Rows of so many bits. -/
def rowsF (W H : Nat) (f : Nat → Nat → Bool) : List (List Bool) := (List.range H).map fun y => (List.range W).map fun x => f x y
def rowF (W : Nat) (f : Nat → Nat → Bool) (y : Nat) : List Bool := (List.range W).map fun x => f x y
theorem rowF_len (W : Nat) (f : Nat → Nat → Bool) (y : Nat) : (rowF W f y).length = W := by simp [rowF]
theorem rowsF_len (W H : Nat) (f : Nat → Nat → Bool) : (rowsF W H f).length = H := by simp [rowsF]
theorem rowsF_at (W H : Nat) (f : Nat → Nat → Bool) (y : Nat) (hy : y < H) : (rowsF W H f).getD y [] = rowF W f y := by simp [rowsF, rowF, List.getD, hy]
theorem rowF_at (W : Nat) (f : Nat → Nat → Bool) (y x : Nat) (hx : x < (rowF W f y).length) : (rowF W f y)[x] = f x y := by simp [rowF]
end Go.Proofs.Ytjkfkkenaiodoaa
