/-
  WALKS: the standard's numbers (spec) of versions and levels: error correction.
-/
import Derived.Test.YtcldipbboidjbaaSh1
import Derived.Test.YtcldipbboidjbaaFill
import Derived.Great.BuildSlice
namespace Go.Proofs.Ytcldipbboidjbaa
open Go.RowKit

/-- How many blocks. -/
def numOf (v l : Nat) : Nat := ((grpOf v l).map (·.1)).sum
def zsE (l : Nat) : List Int := (List.range 40).map fun i => ((ecOf (i + 1) l : Nat) : Int)
def zsB (l : Nat) : List Int := (List.range 40).map fun i => ((numOf (i + 1) l : Nat) : Int)
def arrZ (zs : List Int) : Array Value := (zs.map (Value.int .i64)).toArray
theorem int_size : (Try.prog.info? 3).map (·.size) = some 1 := by kernel_rfl
theorem arrZ_size (zs : List Int) : (arrZ zs).size = zs.length := by simp [arrZ]
theorem arrZ_one (zs : List Int) : (arrZ zs).all (·.oneCell') = true := by
  rw [Array.all_eq_true]
  intro i hi
  simp [arrZ, Value.oneCell']
theorem cells_back {fn : Func} {t1 t2 : Tmp} {ty : TypeId} (h : fn.results = #[.cell t1 ty, .cell t2 ty]) (tmps : Array Value) (P : Program) (w : World) (g1 g2 : Nat) (h1 : tmps.getD t1 undef = .pointer (some ⟨g1, 0, none⟩)) (h2 : tmps.getD t2 undef = .pointer (some ⟨g2, 0, none⟩))
    (c1 c2 : Array Value) (l1 : (loadVar ty ⟨g1, 0, none⟩).run P w = .ok (.agg c1) w) (l2 : (loadVar ty ⟨g2, 0, none⟩).run P w = .ok (.agg c2) w) :
    (results fn tmps).run P w = .ok (.tuple #[.agg c1, .agg c2]) w := by
  rw [Array.getD_eq_getD_getElem?] at h1 h2
  simp [results, h, h1, h2, asAddr, l1, l2]
end Go.Proofs.Ytcldipbboidjbaa
