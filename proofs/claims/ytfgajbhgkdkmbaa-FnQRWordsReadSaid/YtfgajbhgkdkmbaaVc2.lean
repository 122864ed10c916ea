/-
  WALKS: NewBitMatrixParser, impl.parser, BitMatrixParser.copyBit.
-/
import Derived.Test.YtfgajbhgkdkmbaaRo3
import Derived.Test.YtfgajbhgkdkmbaaBmw
import Derived.Test.YtfgajbhgkdkmbaaVv
namespace Go.Proofs.Ytfgajbhgkdkmbaa
open Go.RowKit

/-- Pointer p is a parser of the matrix m. -/
def ParA (w : World) (p m : Nat) (pv pf : Value) : Prop := Blk w p 125 #[.pointer (some ⟨m, 0, none⟩), pv, pf, .bool false]
theorem newParser_any (m g n : Nat) (f : Nat → Nat → Bool) (w : World) (hm : MatAt w m g n n f) (h21 : 21 ≤ n) (h4 : n % 4 = 1) (hn : n ≤ 4096) :
    Calls Try.prog 67 #[.pointer (some ⟨m, 0, none⟩)] w fun e w' => ∃ p, e = .returned (.tuple #[.pointer (some ⟨p, 0, none⟩), .nilIface]) ∧ ParA w' p m (.pointer none) (.pointer none) ∧ w.heap.size ≤ p ∧ Below w.heap.size w w' := by
  have ha := i64_and n 3 (by omega) (by decide)
  rw [show n &&& 3 = n % 4 from Nat.and_two_pow_sub_one_eq_mod n 2, h4] at ha
  have ha2 : (bits .and .i64 (n : Int) 3 != 1) = false := by rw [show (3 : Int) = ((3 : Nat) : Int) by rfl, ha]; rfl
  have hh := matHeight_any m g n n f w hm
  clear hm ha
  go_enter Try.func67, Try.ntmps67
  go_wp2_with fail
  refine hh.mono ?_
  rintro e w ⟨rfl, rfl⟩
  go_wp2
  go_ret2
  exact ⟨_, rfl, Blk.fresh w _ _, Nat.le_refl _, bal (brf w) _⟩
theorem parser_any (n : Nat) (v : Value) (rows : List (List Bool)) (w : World) (hv : RowsT w v rows) (hH : rows.length = n) (hr : ∀ r ∈ rows, r.length = n) (h21 : 21 ≤ n) (h4 : n % 4 = 1) (hn : n ≤ 4096) :
    Calls Try.prog 42 #[v] w fun e w' => ∃ p m g, e = .returned (.tuple #[.pointer (some ⟨p, 0, none⟩), .nilIface]) ∧ ParA w' p m (.pointer none) (.pointer none) ∧ MatAt w' m g n n (bitOf rows) ∧ w.heap.size ≤ p ∧ w.heap.size ≤ m ∧ w.heap.size ≤ g ∧ Below w.heap.size w w' := by
  have hg := grid_any n n v rows w hv hH hr (by omega) (by omega) hn hn
  have HX := Lib.hid (And.intro h21 (And.intro h4 hn))
  clear hv hH hr h21 h4 hn
  go_enter Try.func42, Try.ntmps42
  go_wp2_with fail
  refine hg.mono ?_
  rintro e w1 ⟨m, g, rfl, hm, h1, h2, hb1⟩
  have HM := Lib.hid hm; have HB := Lib.hid hb1; clear hm hb1 hg
  go_wp2_with fail
  refine (newParser_any m g n _ w1 HM.out HX.out.1 HX.out.2.1 HX.out.2.2).mono ?_
  rintro e w2 ⟨p, rfl, hp, h3, hb2⟩
  have HP := Lib.hid hp
  have HB2 := Lib.hid hb2; clear hp hb2
  have hs := HB.out.size
  go_wp2
  go_ret2
  exact ⟨p, m, g, rfl, HP.out, HM.out.up HB2.out, by omega, h1, h2, bup HB.out HB2.out⟩
theorem copyBit_any (p m g n x y vb : Nat) (pv pf : Value) (f : Nat → Nat → Bool) (w : World) (hp : ParA w p m pv pf) (hm : MatAt w m g n n f) (hx : x < n) (hy : y < n) (hn : n ≤ 4096) (hvb : vb ≤ 1048576) :
    Calls Try.prog 69 #[.pointer (some ⟨p, 0, none⟩), .int .i64 x, .int .i64 y, .int .i64 vb] w fun e w' => e = .returned (.int .i64 ((vb * 2 + (f x y).toNat : Nat) : Int)) ∧ w' = w := by
  have c0 : w.cell? ⟨p, 0, none⟩ = some (.pointer (some ⟨m, 0, none⟩)) := by rw [hp.cell]; rfl
  have c3 : w.cell? ⟨p, 3, none⟩ = some (.bool false) := by rw [hp.cell]; rfl
  have hg := matGet_any m g n n x y f w hm hx hy hn hn
  have ho : bits .or .i64 ((vb : Int) * 2) 1 = ((vb * 2 + 1 : Nat) : Int) := by
    have h1 := i64_or (vb * 2) 1 (by omega) (by decide)
    have h2 : vb * 2 ||| 1 = vb * 2 + 1 := by
      have := Nat.two_pow_add_eq_or_of_lt (i := 1) (b := 1) (by decide) vb
      rw [Nat.pow_one, Nat.mul_comm] at this
      exact this.symm
    rw [h2] at h1
    rw [show ((vb * 2 : Nat) : Int) = (vb : Int) * 2 by omega] at h1
    exact h1
  clear hp hm
  generalize f x y = u at *
  go_enter Try.func69, Try.ntmps69
  go_wp2_with fail
  refine hg.mono ?_
  rintro e w ⟨rfl, rfl⟩
  cases u
  · go_wp2
    go_ret
    exact ⟨rfl, rfl⟩
  · go_wp2
    go_ret
    exact ⟨rfl, rfl⟩
end Go.Proofs.Ytfgajbhgkdkmbaa
