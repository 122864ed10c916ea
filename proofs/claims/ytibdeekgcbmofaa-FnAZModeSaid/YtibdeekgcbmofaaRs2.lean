/-
  WALKS: the six fields; lists of elements; what a field and a polynomial are in memory; how they are made.
-/
import Derived.Test.YtibdeekgcbmofaaRs1
namespace Go.Proofs.Ytibdeekgcbmofaa
open Go.RowKit

/-- The field of a number. -/
def fld (n : Nat) : Gf.Fd := Gf.fields.getD (n % 6) ⟨0x13, 4, 1⟩
def fdV (F : Gf.Fd) : Value := .agg #[.int .i64 F.p, .int .i64 F.s, .int .i64 F.b]
theorem fld_mem (n : Nat) : fld n ∈ Gf.fields := by
  unfold fld
  have h : n % 6 < 6 := Nat.mod_lt _ (by decide)
  generalize n % 6 = k at *
  have : k = 0 ∨ k = 1 ∨ k = 2 ∨ k = 3 ∨ k = 4 ∨ k = 5 := by omega
  rcases this with rfl | rfl | rfl | rfl | rfl | rfl <;> simp [Gf.fields]
theorem fld_ok (n : Nat) : Gf.Ok (fld n) := Gf.ok_of_mem (fld_mem n)
theorem fld_12 (n : Nat) : (fld n).m ≤ 12 := by
  have : ∀ F ∈ Gf.fields, F.m ≤ 12 := by decide
  exact this _ (fld_mem n)
theorem fld_b (n : Nat) : (fld n).b ≤ 1 := by
  have : ∀ F ∈ Gf.fields, F.b ≤ 1 := by decide
  exact this _ (fld_mem n)
theorem s_le (F : Gf.Fd) (h12 : F.m ≤ 12) : F.s ≤ 4096 := by unfold Gf.Fd.s; exact Nat.pow_le_pow_right (n := 2) (i := F.m) (j := 12) (by decide) h12

/-- An element by any number. -/
def el (F : Gf.Fd) (x : Int) : Nat := (x % (F.s : Int)).toNat
theorem el_int (F : Gf.Fd) (x : Int) : ((el F x : Nat) : Int) = x % (F.s : Int) := by
  have := Gf.s_pos F
  exact Int.toNat_of_nonneg (Int.emod_nonneg _ (by omega))
theorem el_lt (F : Gf.Fd) (x : Int) : el F x < F.s := by
  have h1 := Gf.s_pos F
  have h2 := el_int F x
  have h3 := Int.emod_lt_of_pos x (b := (F.s : Int)) (by omega)
  omega
theorem info_int : (Try.prog.info? 3).map (fun i => (i.zero, i.size, i.bytes)) = some (some (.int .i64 0), 1, 8) := by kernel_rfl

end Go.Proofs.Ytibdeekgcbmofaa
