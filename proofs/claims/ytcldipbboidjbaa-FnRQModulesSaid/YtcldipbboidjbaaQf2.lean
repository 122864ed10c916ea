/-
  WALKS: bits of a format, how many bits differ, the nearest format; what a format information is made of.
-/
import Derived.Test.YtcldipbboidjbaaQf1
import Derived.Test.YtcldipbboidjbaaErr
namespace Go.Proofs.Ytcldipbboidjbaa
open Go.RowKit

def fmtN (l m : Nat) : Nat := ((l * 8 ||| m) * 1024 ||| restN ((l * 8 ||| m) * 1024) 1335 11) ^^^ 21522
/-- The 15 bits of format k. -/
def fmtT (k : Nat) : Nat := fmtN (k / 8) (k % 8)
theorem fmtT_lt : ∀ k, k < 32 → fmtT k < 32768 := by decide +kernel
theorem fmt_parts : ∀ l, l < 4 → ∀ m, m < 8 → (l * 8 ||| m) = l * 8 + m := by decide
theorem fmtT_of (l m : Nat) (hm : m < 8) : fmtT (l * 8 + m) = fmtN l m := by
  unfold fmtT; rw [show (l * 8 + m) / 8 = l by omega, show (l * 8 + m) % 8 = m by omega]
/-- In how many bits x differs from format k. -/
def dF (x k : Nat) : Nat := pc (x ^^^ fmtT k)
set_option maxRecDepth 100000 in
theorem fmtBits_any (l m : Nat) (w : World) (hl : l < 4) (hm : m < 8) :
    Calls Try.prog 37 #[.int .i64 l, .int .i64 m] w fun e w' => e = .returned (.int .i64 (fmtT (l * 8 + m) : Nat)) ∧ w' = w := by
  have ho : bits .or .i64 ((l : Int) * 8) (m : Int) = ((l * 8 ||| m : Nat) : Int) := i64_or (l * 8) m (by omega) (by omega)
  have hp := fmt_parts l hl m hm
  have hd : l * 8 ||| m < 32 := by rw [hp]; omega
  have hrr := fun w' => qrRest_any ((l * 8 ||| m) * 1024) 1335 11 w' (by omega) (by decide) (by decide) (by decide)
  have hf : fmtT (l * 8 + m) = ((l * 8 ||| m) * 1024 ||| restN ((l * 8 ||| m) * 1024) 1335 11) ^^^ 21522 := by rw [fmtT_of l m hm]; rfl
  have hlt := fmtT_lt (l * 8 + m) (by omega)
  rw [hf] at hlt ⊢
  clear hp hf
  generalize l * 8 ||| m = d at *
  have hcast : ((d * 1024 : Nat) : Int) = (d : Int) * 1024 := by simp
  rw [hcast] at hrr
  have hrl : restN (d * 1024) 1335 11 < 262144 := by
    have h1 : ∀ k, k ≤ 8 → restK 1335 11 (d * 1024) k < 262144 := by
      intro k
      induction k with
      | zero => intro _; unfold restK; omega
      | succ k ih => intro hk; unfold restK; exact restStep_lt _ _ _ _ (ih (by omega)) (by decide) (by omega) (by omega)
    exact h1 8 (Nat.le_refl _)
  generalize restN (d * 1024) 1335 11 = r at *
  have h2 := i64_or (d * 1024) r (by omega) (Nat.lt_trans hrl (by decide))
  have hor : d * 1024 ||| r < 262144 := Nat.or_lt_two_pow (n := 18) (by omega) (by omega)
  rw [hcast] at h2
  generalize d * 1024 ||| r = q at *
  have h3 : bits .xor .i64 (q : Int) 21522 = ((q ^^^ 21522 : Nat) : Int) := i64_xor q 21522 (Nat.lt_trans hor (by decide)) (by decide)
  generalize q ^^^ 21522 = z at *
  have HR := Lib.hid hrr; clear hrr hcast
  go_enter Try.func37, Try.ntmps37
  go_wp2_with fail
  refine (HR.out _).mono ?_
  rintro e w ⟨rfl, rfl⟩
  go_wp2
  go_ret
  exact ⟨rfl, rfl⟩
/-- Of the first k formats the nearest one, and in how many bits it differs. -/
def nearK (x : Nat) : Nat → Nat × Nat
  | 0 => (16, 0)
  | k + 1 => if dF x k < (nearK x k).1 then (dF x k, k) else nearK x k
theorem nearK_lt (x k : Nat) : (nearK x k).2 ≤ k ∧ (nearK x k).1 ≤ 16 := by
  induction k with
  | zero => exact ⟨Nat.le_refl _, Nat.le_refl _⟩
  | succ k ih =>
    unfold nearK; split
    · exact ⟨Nat.le_succ k, by omega⟩
    · exact ⟨by omega, ih.2⟩
theorem nearK_idx (x k : Nat) (hk : k ≤ 32) : (nearK x k).2 < 32 := by
  induction k with
  | zero => exact (by decide : 0 < 32)
  | succ k ih =>
    unfold nearK; split
    · exact (by omega : k < 32)
    · exact ih (by omega)
end Go.Proofs.Ytcldipbboidjbaa
