/-
  PLAIN: products of polynomials over a field, as two nested loops make them.
-/
import Derived.Test.YtibdeekgcbmofaaGf
namespace Go.Proofs.Ytibdeekgcbmofaa.Gf

/-- v is added at place j. -/
def addAt (out : List Nat) (j v : Nat) : List Nat := out.set j (out.getD j 0 ^^^ v)
def inner (F : Fd) (x : Nat) : List Nat → Nat → List Nat → List Nat
  | [], _, out => out
  | y :: ys, j, out => inner F x ys (j + 1) (addAt out j (mul F x y))
def outer (F : Fd) : List Nat → List Nat → Nat → List Nat → List Nat
  | [], _, _, out => out
  | x :: xs, ys, i, out => outer F xs ys (i + 1) (inner F x ys i out)
def prod (F : Fd) (xs ys : List Nat) : List Nat := outer F xs ys 0 (List.replicate (xs.length + ys.length - 1) 0)

theorem addAt_len (out : List Nat) (j v : Nat) : (addAt out j v).length = out.length := by simp [addAt]
theorem inner_len (F : Fd) (x : Nat) : ∀ (ys : List Nat) (j : Nat) (out : List Nat), (inner F x ys j out).length = out.length
  | [], _, _ => rfl
  | y :: ys, j, out => by unfold inner; rw [inner_len F x ys, addAt_len]
theorem outer_len (F : Fd) : ∀ (xs ys : List Nat) (i : Nat) (out : List Nat), (outer F xs ys i out).length = out.length
  | [], _, _, _ => rfl
  | x :: xs, ys, i, out => by unfold outer; rw [outer_len F xs ys, inner_len]
theorem prod_len (F : Fd) (xs ys : List Nat) : (prod F xs ys).length = xs.length + ys.length - 1 := by unfold prod; rw [outer_len]; simp
theorem addAt_lt {F : Fd} {out : List Nat} {j v : Nat} (ho : ∀ x ∈ out, x < F.s) (hv : v < F.s) : ∀ x ∈ addAt out j v, x < F.s := by
  intro x hx
  unfold addAt at hx
  rcases List.mem_or_eq_of_mem_set hx with h | h
  · exact ho x h
  · subst h
    refine Nat.xor_lt_two_pow ?_ hv
    by_cases hj : j < out.length
    · rw [List.getD, List.getElem?_eq_getElem hj]; exact ho _ (List.getElem_mem hj)
    · rw [List.getD, List.getElem?_eq_none (by omega)]; exact s_pos F
theorem inner_lt {F : Fd} (h : Ok F) {x : Nat} (hx : x < F.s) : ∀ (ys : List Nat) (j : Nat) (out : List Nat), (∀ z ∈ out, z < F.s) → ∀ z ∈ inner F x ys j out, z < F.s
  | [], _, _, ho => ho
  | y :: ys, j, _, ho => inner_lt h hx ys (j + 1) _ (addAt_lt ho (mul_lt h y hx))
theorem outer_lt {F : Fd} (h : Ok F) : ∀ (xs ys : List Nat) (i : Nat) (out : List Nat), (∀ z ∈ xs, z < F.s) → (∀ z ∈ out, z < F.s) → ∀ z ∈ outer F xs ys i out, z < F.s
  | [], _, _, _, _, ho => ho
  | x :: xs, ys, i, out, hx, ho => outer_lt h xs ys (i + 1) _ (fun z hz => hx z (List.mem_cons_of_mem _ hz)) (inner_lt h (hx x (List.mem_cons_self ..)) ys i out ho)
theorem prod_lt {F : Fd} (h : Ok F) (xs ys : List Nat) (hx : ∀ z ∈ xs, z < F.s) : ∀ z ∈ prod F xs ys, z < F.s :=
  outer_lt h xs ys 0 _ hx (fun z hz => by have := List.eq_of_mem_replicate hz; have := s_pos F; omega)
theorem addAt_zero (out : List Nat) (j : Nat) : addAt out j 0 = out := by
  unfold addAt
  apply List.ext_getElem?
  intro i
  rw [List.getElem?_set]
  by_cases hij : j = i
  · subst hij
    by_cases hj : j < out.length
    · simp [List.getD, hj]
    · simp [hj]
  · simp [hij]
theorem inner_zero (F : Fd) : ∀ (ys : List Nat) (j : Nat) (out : List Nat), inner F 0 ys j out = out
  | [], _, _ => rfl
  | y :: ys, j, out => by unfold inner; rw [zero_mul, addAt_zero]; exact inner_zero F ys (j + 1) out
theorem outer_zero (F : Fd) : ∀ (xs : List Nat) (i : Nat) (out : List Nat), outer F xs [0] i out = out
  | [], _, _ => rfl
  | x :: xs, i, out => by
    unfold outer inner inner
    rw [mul_zero, addAt_zero]
    exact outer_zero F xs (i + 1) out
theorem prod_zero_left (F : Fd) (ys : List Nat) : prod F [0] ys = List.replicate ys.length 0 := by
  unfold prod outer outer
  rw [inner_zero]
  congr 1; simp
theorem prod_zero_right (F : Fd) (xs : List Nat) : prod F xs [0] = List.replicate xs.length 0 := by
  unfold prod
  rw [outer_zero]
  congr 1
theorem inner_drop (F : Fd) (x : Nat) (ys : List Nat) (k j : Nat) (out : List Nat) (hk : k < ys.length) : inner F x (ys.drop k) j out = inner F x (ys.drop (k + 1)) (j + 1) (addAt out j (mul F x ys[k])) := by
  rw [List.drop_eq_getElem_cons hk]
  rfl
theorem outer_drop (F : Fd) (xs ys : List Nat) (i : Nat) (out : List Nat) (hi : i < xs.length) : outer F (xs.drop i) ys i out = outer F (xs.drop (i + 1)) ys (i + 1) (inner F xs[i] ys i out) := by
  rw [List.drop_eq_getElem_cons hi]
  rfl
end Go.Proofs.Ytibdeekgcbmofaa.Gf
