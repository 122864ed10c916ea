/-
  PLAIN: fields of 2^m elements as numbers: 'step' (times 2), 'mul' (the product by the bits of the second factor), 'ex' (powers of 2); that each of the six fields of the symbols has 2 for a generator; that 'mul' is what exponents say. No program in sight. WALKS: the small functions over numbers of a field: elements, products by bits, lists that are compared; what each returns is told by plain functions (Gf). WALKS: the six fields; lists of elements; what a field and a polynomial are in memory; how they are made. WALKS: lists of elements. WALKS: polynomials in memory: how one is made of its coefficients (zeros ahead are left out). WALKS: a field in memory: its tables of powers and logarithms, as NewGenericGF makes them. WALKS: a field is made, an inverse is told; THE LAW of inverses. WALKS: impl.FieldInverse, and the law of inverses.
-/
import Derived.Test.YtopfdmmimgnciaaGreatDoorV01
import Derived.BigQuiet
import Derived.Deep.RegionHeld3
import Derived.Deep.AppendLies
namespace Go.Proofs.YtopfdmmimgnciaaGreatDoor.Gf

structure Fd where
  p : Nat
  m : Nat
  b : Nat
def Fd.s (F : Fd) : Nat := 2 ^ F.m

def step (F : Fd) (y : Nat) : Nat := if F.s ≤ 2 * y then (2 * y) ^^^ F.p else 2 * y
def mulLoop (F : Fd) (a b : Nat) : Nat → Nat → Nat
  | 0, out => out
  | j + 1, out => mulLoop F a b j (if b / 2 ^ j % 2 = 1 then step F out ^^^ a else step F out)
def mul (F : Fd) (a b : Nat) : Nat := mulLoop F a b F.m 0
def ex (F : Fd) : Nat → Nat
  | 0 => 1
  | n + 1 => step F (ex F n)

/-- The powers of 2 from 'x' on: none of the next n is 1. -/
def noOne (F : Fd) : Nat → Nat → Bool
  | 0, _ => true
  | n + 1, x => (step F x != 1) && noOne F n (step F x)
def walkTo (F : Fd) : Nat → Nat → Nat
  | 0, x => x
  | n + 1, x => walkTo F n (step F x)
/-- What is asked of a field, by reckoning: at least 2 bits; the primitive one has its highest bit at m; 2 has no power 1 before the last. -/
def ok (F : Fd) : Bool := decide (2 ≤ F.m) && decide (F.s ≤ F.p) && decide (F.p < 2 * F.s) && decide (F.p % 2 = 1) && noOne F (F.s - 3) 2 && (walkTo F (F.s - 2) 2 == 1)

def fields : List Fd := [⟨0x13, 4, 1⟩, ⟨0x43, 6, 1⟩, ⟨0x12D, 8, 1⟩, ⟨0x11D, 8, 0⟩, ⟨0x409, 10, 1⟩, ⟨0x1069, 12, 1⟩]
theorem fields_ok : ∀ F ∈ fields, ok F = true := by decide +kernel

section
variable {F : Fd}
structure Ok (F : Fd) : Prop where
  m2 : 2 ≤ F.m
  lo : F.s ≤ F.p
  hi : F.p < 2 * F.s
  odd : F.p % 2 = 1
  none_ : noOne F (F.s - 3) 2 = true
  last : walkTo F (F.s - 2) 2 = 1
theorem Ok.of (h : ok F = true) : Ok F := by
  simp only [ok, Bool.and_eq_true, decide_eq_true_eq, beq_iff_eq] at h
  obtain ⟨⟨⟨⟨⟨h1, h2⟩, h3⟩, h4⟩, h5⟩, h6⟩ := h
  exact ⟨h1, h2, h3, h4, h5, h6⟩
theorem ok_of_mem (h : F ∈ fields) : Ok F := Ok.of (fields_ok F h)

theorem s_pos (F : Fd) : 0 < F.s := Nat.two_pow_pos _
theorem s_split (h : Ok F) : F.s = 2 * 2 ^ (F.m - 1) := by
  unfold Fd.s
  have := h.m2
  rw [← Nat.pow_succ']; congr 1; omega
theorem s_ge4 (h : Ok F) : 4 ≤ F.s := by
  have h2 := h.m2
  have : 2 ^ 2 ≤ 2 ^ F.m := Nat.pow_le_pow_right (by decide) h2
  exact this

theorem p_bit (h : Ok F) : F.p.testBit F.m = true := by
  have h1 : F.p / 2 ^ F.m = 1 := by
    have lo := h.lo; have hi := h.hi
    unfold Fd.s at lo hi
    exact Nat.div_eq_of_lt_le (by omega) (by omega)
  simp [Nat.testBit, Nat.shiftRight_eq_div_pow, h1]

theorem step_lt (h : Ok F) {y : Nat} (hy : y < F.s) : step F y < F.s := by
  unfold step
  split
  · rename_i hge
    have hlt : (2 * y) ^^^ F.p < 2 ^ (F.m + 1) := Nat.xor_lt_two_pow (by unfold Fd.s at hy; rw [Nat.pow_succ]; omega) (by have := h.hi; unfold Fd.s at this; rw [Nat.pow_succ]; omega)
    have hb : ((2 * y) ^^^ F.p).testBit F.m = false := by
      rw [Nat.testBit_xor, p_bit h]
      have h1 : (2 * y) / 2 ^ F.m = 1 := by unfold Fd.s at hge hy; exact Nat.div_eq_of_lt_le (by omega) (by omega)
      simp [Nat.testBit, Nat.shiftRight_eq_div_pow, h1]
    unfold Fd.s
    apply Nat.lt_of_not_le
    intro hle
    have h2 : ((2 * y) ^^^ F.p) / 2 ^ F.m = 1 := Nat.div_eq_of_lt_le (by omega) (by rw [Nat.pow_succ] at hlt; omega)
    simp [Nat.testBit, Nat.shiftRight_eq_div_pow, h2] at hb
  · omega

theorem two_mul_xor (x y : Nat) : 2 * (x ^^^ y) = (2 * x) ^^^ (2 * y) := by
  have h (n : Nat) : 2 * n = n <<< 1 := by rw [Nat.shiftLeft_eq]; omega
  rw [h, h, h, Nat.shiftLeft_xor_distrib]

theorem ge_iff (h : Ok F) {y : Nat} (hy : y < F.s) : F.s ≤ 2 * y ↔ y.testBit (F.m - 1) = true := by
  have hs := s_split h
  have e : y / 2 ^ (F.m - 1) % 2 = y / 2 ^ (F.m - 1) := Nat.mod_eq_of_lt (Nat.div_lt_of_lt_mul (by omega))
  constructor
  · intro hge
    have h1 : y / 2 ^ (F.m - 1) = 1 := Nat.div_eq_of_lt_le (by omega) (by omega)
    simp [Nat.testBit, Nat.shiftRight_eq_div_pow, h1]
  · intro ht
    apply Nat.le_of_not_lt
    intro hlt
    have h1 : y / 2 ^ (F.m - 1) = 0 := Nat.div_eq_of_lt (by omega)
    simp [Nat.testBit, Nat.shiftRight_eq_div_pow, h1] at ht

theorem step_xor (h : Ok F) {x y : Nat} (hx : x < F.s) (hy : y < F.s) : step F (x ^^^ y) = step F x ^^^ step F y := by
  have hxy : x ^^^ y < F.s := Nat.xor_lt_two_pow hx hy
  have e1 := ge_iff h hx
  have e2 := ge_iff h hy
  have e3 := ge_iff h hxy
  rw [Nat.testBit_xor] at e3
  unfold step
  rw [two_mul_xor] at *
  by_cases a : x.testBit (F.m - 1) = true <;> by_cases b : y.testBit (F.m - 1) = true
  · rw [if_neg (by rw [e3, a, b]; decide), if_pos (e1.2 a), if_pos (e2.2 b)]
    apply Nat.eq_of_testBit_eq; intro i; simp only [Nat.testBit_xor]
    cases (2 * x).testBit i <;> cases (2 * y).testBit i <;> cases F.p.testBit i <;> rfl
  · simp only [Bool.not_eq_true] at b
    rw [if_pos (e3.2 (by rw [a, b]; rfl)), if_pos (e1.2 a), if_neg (by rw [e2, b]; decide)]
    apply Nat.eq_of_testBit_eq; intro i; simp only [Nat.testBit_xor]
    cases (2 * x).testBit i <;> cases (2 * y).testBit i <;> cases F.p.testBit i <;> rfl
  · simp only [Bool.not_eq_true] at a
    rw [if_pos (e3.2 (by rw [a, b]; rfl)), if_neg (by rw [e1, a]; decide), if_pos (e2.2 b)]
    apply Nat.eq_of_testBit_eq; intro i; simp only [Nat.testBit_xor]
    cases (2 * x).testBit i <;> cases (2 * y).testBit i <;> cases F.p.testBit i <;> rfl
  · simp only [Bool.not_eq_true] at a b
    rw [if_neg (by rw [e3, a, b]; decide), if_neg (by rw [e1, a]; decide), if_neg (by rw [e2, b]; decide)]

theorem step_zero (F : Fd) : step F 0 = 0 := by
  unfold step
  have := s_pos F
  rw [if_neg (by omega)]
theorem step_ne (h : Ok F) {y : Nat} (hy : 0 < y) : step F y ≠ 0 := by
  unfold step
  split
  · intro h0
    have h1 : 2 * y = F.p := by
      have := congrArg (· ^^^ F.p) h0
      simpa [Nat.xor_assoc] using this
    have := h.odd
    omega
  · omega

theorem mulLoop_lt (h : Ok F) {a : Nat} (b : Nat) (ha : a < F.s) : ∀ (j out : Nat), out < F.s → mulLoop F a b j out < F.s
  | 0, out, ho => ho
  | j + 1, out, ho => by
    unfold mulLoop
    apply mulLoop_lt h b ha j
    split
    · exact Nat.xor_lt_two_pow (step_lt h ho) ha
    · exact step_lt h ho
theorem mul_lt (h : Ok F) {a : Nat} (b : Nat) (ha : a < F.s) : mul F a b < F.s := mulLoop_lt h b ha _ _ (s_pos F)

theorem mulLoop_step (h : Ok F) {a : Nat} (b : Nat) (ha : a < F.s) : ∀ (j out : Nat), out < F.s → mulLoop F (step F a) b j (step F out) = step F (mulLoop F a b j out)
  | 0, out, _ => rfl
  | j + 1, out, ho => by
    unfold mulLoop
    have h1 := step_lt h ho
    by_cases hb : b / 2 ^ j % 2 = 1
    · rw [if_pos hb, if_pos hb, ← step_xor h h1 ha]
      exact mulLoop_step h b ha j _ (Nat.xor_lt_two_pow h1 ha)
    · rw [if_neg hb, if_neg hb]
      exact mulLoop_step h b ha j _ h1
theorem mul_step (h : Ok F) {a : Nat} (b : Nat) (ha : a < F.s) : mul F (step F a) b = step F (mul F a b) := by
  have := mulLoop_step h b ha F.m 0 (s_pos F)
  rw [step_zero] at this
  exact this

theorem mulLoop_zero (F : Fd) (b : Nat) : ∀ j, mulLoop F 0 b j 0 = 0
  | 0 => rfl
  | j + 1 => by
    unfold mulLoop
    rw [step_zero]
    simp only [Nat.xor_zero, ite_self]
    exact mulLoop_zero F b j
theorem zero_mul (F : Fd) (b : Nat) : mul F 0 b = 0 := mulLoop_zero F b _
theorem mulLoop_of_zero (F : Fd) (a : Nat) : ∀ j, mulLoop F a 0 j 0 = 0
  | 0 => rfl
  | j + 1 => by
    unfold mulLoop
    rw [step_zero, if_neg (by simp)]
    exact mulLoop_of_zero F a j
theorem mul_zero (F : Fd) (a : Nat) : mul F a 0 = 0 := mulLoop_of_zero F a _

theorem mulLoop_one (h : Ok F) {b : Nat} (hb : b < F.s) : ∀ j, j ≤ F.m → mulLoop F 1 b j (b / 2 ^ j) = b
  | 0, _ => by simp [mulLoop]
  | j + 1, hj => by
    unfold mulLoop
    have h1 : 2 * (b / 2 ^ (j + 1)) < F.s := by
      have : b / 2 ^ (j + 1) * 2 ^ (j + 1) ≤ b := Nat.div_mul_le_self _ _
      have h2 : 2 ≤ 2 ^ (j + 1) := by rw [Nat.pow_succ]; have := Nat.two_pow_pos j; omega
      have h3 : b / 2 ^ (j + 1) * 2 ≤ b / 2 ^ (j + 1) * 2 ^ (j + 1) := Nat.mul_le_mul_left _ h2
      omega
    have h2 : step F (b / 2 ^ (j + 1)) = 2 * (b / 2 ^ (j + 1)) := by unfold step; rw [if_neg (by omega)]
    have h3 : b / 2 ^ (j + 1) = b / 2 ^ j / 2 := by rw [Nat.pow_succ, Nat.div_div_eq_div_mul]
    rw [h2]
    have ih := mulLoop_one h hb j (by omega)
    have h4 : (if b / 2 ^ j % 2 = 1 then 2 * (b / 2 ^ (j + 1)) ^^^ 1 else 2 * (b / 2 ^ (j + 1))) = b / 2 ^ j := by
      rw [h3]
      generalize b / 2 ^ j = q
      split
      · have e : 2 * (q / 2) ^^^ 1 = 2 * (q / 2) + 1 := by
          apply Nat.eq_of_testBit_eq; intro i
          rw [Nat.testBit_xor]
          cases i with
          | zero => simp [Nat.testBit_zero]
          | succ i => simp only [Nat.testBit_succ]; simp; congr 1; omega
        omega
      · omega
    rw [h4]; exact ih
theorem one_mul (h : Ok F) {b : Nat} (hb : b < F.s) : mul F 1 b = b := by
  have := mulLoop_one h hb F.m (Nat.le_refl _)
  rwa [show b / 2 ^ F.m = 0 from Nat.div_eq_of_lt hb] at this

/-! ### Powers of 2 -/
theorem ex_lt (h : Ok F) : ∀ n, ex F n < F.s
  | 0 => by have := s_ge4 h; show 1 < F.s; omega
  | n + 1 => step_lt h (ex_lt h n)
theorem ex_pos (h : Ok F) : ∀ n, 0 < ex F n
  | 0 => Nat.one_pos
  | n + 1 => Nat.pos_of_ne_zero (step_ne h (ex_pos h n))
theorem walkTo_ex (F : Fd) : ∀ (n k : Nat), walkTo F n (ex F k) = ex F (k + n)
  | 0, k => rfl
  | n + 1, k => by
    unfold walkTo
    have := walkTo_ex F n (k + 1)
    rw [show k + 1 + n = k + (n + 1) from by omega] at this
    exact this
theorem noOne_ex : ∀ (n k : Nat), noOne F n (ex F k) = true → ∀ i, k < i → i ≤ k + n → ex F i ≠ 1
  | 0, k, _, i, h1, h2 => by omega
  | n + 1, k, h, i, h1, h2 => by
    simp only [noOne, Bool.and_eq_true, bne_iff_ne, ne_eq] at h
    by_cases hi : i = k + 1
    · subst hi; exact h.1
    · exact noOne_ex n (k + 1) h.2 i (by omega) (by omega)
theorem ex_one (h : Ok F) : ex F 1 = 2 := by
  have := s_ge4 h
  show step F 1 = 2
  unfold step; rw [if_neg (by omega)]
theorem ex_period (h : Ok F) : ex F (F.s - 1) = 1 := by
  have h1 := walkTo_ex F (F.s - 2) 1
  have := s_ge4 h
  rw [ex_one h, h.last, show 1 + (F.s - 2) = F.s - 1 from by omega] at h1
  exact h1.symm
theorem ex_ne_one (h : Ok F) {i : Nat} (h0 : 0 < i) (hi : i < F.s - 1) : ex F i ≠ 1 := by
  have h4 := s_ge4 h
  by_cases h1 : i = 1
  · subst h1; rw [ex_one h]; decide
  · exact noOne_ex (F := F) (F.s - 3) 1 (by rw [ex_one h]; exact h.none_) i (by omega) (by omega)
theorem mul_ex (h : Ok F) (j : Nat) : ∀ i, mul F (ex F i) (ex F j) = ex F (i + j)
  | 0 => by rw [Nat.zero_add]; exact one_mul h (ex_lt h j)
  | i + 1 => by
    show mul F (step F (ex F i)) (ex F j) = _
    rw [mul_step h _ (ex_lt h i), mul_ex h j i, show i + 1 + j = (i + j) + 1 from by omega]
    rfl
theorem ex_add_period (h : Ok F) (i : Nat) : ex F (i + (F.s - 1)) = ex F i := by
  rw [← mul_ex h, ex_period h]
  have h1 : mul F (ex F i) 1 = mul F (ex F i) (ex F 0) := rfl
  rw [h1, mul_ex h, Nat.add_zero]
theorem ex_mod (h : Ok F) (i : Nat) : ex F (i % (F.s - 1)) = ex F i := by
  have h4 := s_ge4 h
  induction i using Nat.strongRecOn with
  | _ i ih =>
    by_cases hi : i < F.s - 1
    · rw [Nat.mod_eq_of_lt hi]
    · rw [Nat.mod_eq_sub_mod (by omega), ih (i - (F.s - 1)) (by omega), ← ex_add_period h]
      congr 1; omega
theorem ex_cancel (h : Ok F) {i k : Nat} (he : ex F (i + k) = ex F i) : ex F k = 1 := by
  have h4 := s_ge4 h
  have h5 : ex F (i * (F.s - 1)) = 1 := by
    rw [← ex_mod h, Nat.mul_mod_left]; rfl
  have h6 : i ≤ i * (F.s - 1) := Nat.le_mul_of_pos_right _ (by omega)
  have h1 : mul F (ex F (i * (F.s - 1) - i)) (ex F (i + k)) = mul F (ex F (i * (F.s - 1) - i)) (ex F i) := by rw [he]
  rw [mul_ex h, mul_ex h, show i * (F.s - 1) - i + (i + k) = k + i * (F.s - 1) from by omega, show i * (F.s - 1) - i + i = i * (F.s - 1) from by omega, h5,
    ← mul_ex h, h5] at h1
  have h7 : mul F (ex F k) 1 = mul F (ex F k) (ex F 0) := rfl
  rw [h7, mul_ex h, Nat.add_zero] at h1
  exact h1
theorem ex_inj (h : Ok F) {i j : Nat} (hi : i < F.s - 1) (hj : j < F.s - 1) (he : ex F i = ex F j) : i = j := by
  rcases Nat.lt_trichotomy i j with hlt | heq | hlt
  · exact absurd (ex_cancel h (i := i) (k := j - i) (by rw [show i + (j - i) = j from by omega, he])) (ex_ne_one h (by omega) (by omega))
  · exact heq
  · exact absurd (ex_cancel h (i := j) (k := i - j) (by rw [show j + (i - j) = i from by omega, he])) (ex_ne_one h (by omega) (by omega))

/-- An injective map of the numbers below n into themselves meets each. -/
theorem meets_all : ∀ (n : Nat) (f : Nat → Nat), (∀ i, i < n → f i < n) → (∀ i j, i < n → j < n → f i = f j → i = j) → ∀ y, y < n → ∃ i, i < n ∧ f i = y
  | 0, _, _, _, y, hy => by omega
  | n + 1, f, hf, hinj, y, hy => by
    by_cases hy' : y = f n
    · exact ⟨n, by omega, hy'.symm⟩
    · -- exchange the values f n and n
      let g : Nat → Nat := fun i => if f i = n then f n else f i
      have hg : ∀ i, i < n → g i < n := by
        intro i hi
        show (if f i = n then f n else f i) < n
        split
        · rename_i h1
          have h2 := hf n (by omega)
          have h3 : f n ≠ n := fun h4 => by have := hinj i n (by omega) (by omega) (by omega); omega
          omega
        · have := hf i (by omega); omega
      have hgi : ∀ i j, i < n → j < n → g i = g j → i = j := by
        intro i j hi hj he
        have he' : (if f i = n then f n else f i) = (if f j = n then f n else f j) := he
        split at he' <;> split at he'
        · rename_i h1 h2; exact hinj i j (by omega) (by omega) (by omega)
        · have := hinj n j (by omega) (by omega) he'; omega
        · have := hinj i n (by omega) (by omega) he'; omega
        · exact hinj i j (by omega) (by omega) he'
      by_cases hn : y = n
      · -- n is met by f at some i below n: f restricted would else be into n
        by_cases hall : ∃ i, i < n ∧ f i = n
        · obtain ⟨i, h1, h2⟩ := hall; exact ⟨i, by omega, by omega⟩
        · exfalso
          have hlt : ∀ i, i < n → f i < n := fun i hi => by
            have := hf i (by omega)
            have h2 : f i ≠ n := fun h3 => hall ⟨i, hi, h3⟩
            omega
          have hfn : f n < n := by have := hf n (by omega); omega
          obtain ⟨i, h1, h2⟩ := meets_all n f hlt (fun i j hi hj => hinj i j (by omega) (by omega)) (f n) hfn
          have := hinj i n (by omega) (by omega) h2
          omega
      · obtain ⟨i, h1, h2⟩ := meets_all n g hg hgi y (by omega)
        have h3 : (if f i = n then f n else f i) = y := h2
        split at h3
        · exact absurd h3.symm hy'
        · exact ⟨i, by omega, h3⟩

theorem ex_onto (h : Ok F) {a : Nat} (h0 : 0 < a) (ha : a < F.s) : ∃ i, i < F.s - 1 ∧ ex F i = a := by
  have h4 := s_ge4 h
  obtain ⟨i, h1, h2⟩ := meets_all (F.s - 1) (fun i => ex F i - 1) (fun i _ => by have := ex_lt h i; have := ex_pos h i; show ex F i - 1 < _; omega)
    (fun i j hi hj he => ex_inj h hi hj (by have := ex_pos h i; have := ex_pos h j; have he' : ex F i - 1 = ex F j - 1 := he; omega)) (a - 1) (by omega)
  have h2' : ex F i - 1 = a - 1 := h2
  exact ⟨i, h1, by have := ex_pos h i; omega⟩

/-- The logarithm: the exponent below s - 1. -/
def lg (F : Fd) (a : Nat) : Nat := ((List.range (F.s - 1)).find? fun i => ex F i == a).getD 0
theorem lg_spec (h : Ok F) {a : Nat} (h0 : 0 < a) (ha : a < F.s) : lg F a < F.s - 1 ∧ ex F (lg F a) = a := by
  obtain ⟨i, h1, h2⟩ := ex_onto h h0 ha
  unfold lg
  cases hf : (List.range (F.s - 1)).find? fun i => ex F i == a with
  | none =>
    have := List.find?_eq_none.1 hf i (List.mem_range.2 h1)
    simp [h2] at this
  | some k =>
    have hk := List.find?_some hf
    have hm := List.mem_of_find?_eq_some hf
    exact ⟨List.mem_range.1 hm, by simpa using hk⟩
theorem lg_ex (h : Ok F) {i : Nat} (hi : i < F.s - 1) : lg F (ex F i) = i := by
  have := lg_spec h (ex_pos h i) (ex_lt h i)
  exact ex_inj h this.1 hi this.2

/-! ### The laws of the field -/
theorem mul_lg (h : Ok F) {a b : Nat} (a0 : 0 < a) (ha : a < F.s) (b0 : 0 < b) (hb : b < F.s) : mul F a b = ex F ((lg F a + lg F b) % (F.s - 1)) := by
  obtain ⟨_, e1⟩ := lg_spec h a0 ha
  obtain ⟨_, e2⟩ := lg_spec h b0 hb
  rw [ex_mod h, ← mul_ex h, e1, e2]
theorem mul_comm (h : Ok F) {a b : Nat} (ha : a < F.s) (hb : b < F.s) : mul F a b = mul F b a := by
  rcases Nat.eq_zero_or_pos a with rfl | a0
  · rw [zero_mul, mul_zero]
  · rcases Nat.eq_zero_or_pos b with rfl | b0
    · rw [zero_mul, mul_zero]
    · rw [mul_lg h a0 ha b0 hb, mul_lg h b0 hb a0 ha, Nat.add_comm]
theorem mul_pos (h : Ok F) {a b : Nat} (a0 : 0 < a) (ha : a < F.s) (b0 : 0 < b) (hb : b < F.s) : 0 < mul F a b := by
  rw [mul_lg h a0 ha b0 hb]; exact ex_pos h _
theorem mul_assoc (h : Ok F) {a b c : Nat} (ha : a < F.s) (hb : b < F.s) (hc : c < F.s) : mul F (mul F a b) c = mul F a (mul F b c) := by
  rcases Nat.eq_zero_or_pos a with rfl | a0
  · simp only [zero_mul]
  · rcases Nat.eq_zero_or_pos b with rfl | b0
    · simp only [zero_mul, mul_zero]
    · rcases Nat.eq_zero_or_pos c with rfl | c0
      · simp only [mul_zero]
      · obtain ⟨_, e1⟩ := lg_spec h a0 ha
        obtain ⟨_, e2⟩ := lg_spec h b0 hb
        obtain ⟨_, e3⟩ := lg_spec h c0 hc
        rw [← e1, ← e2, ← e3, mul_ex h, mul_ex h, mul_ex h, mul_ex h, Nat.add_assoc]
theorem mul_one (h : Ok F) {a : Nat} (ha : a < F.s) : mul F a 1 = a := by
  rw [mul_comm h ha (by have := s_ge4 h; omega), one_mul h ha]
theorem mulLoop_xor (h : Ok F) (b : Nat) {a a' : Nat} (ha : a < F.s) (ha' : a' < F.s) : ∀ (j out out' : Nat), out < F.s → out' < F.s →
    mulLoop F (a ^^^ a') b j (out ^^^ out') = mulLoop F a b j out ^^^ mulLoop F a' b j out'
  | 0, _, _, _, _ => rfl
  | j + 1, out, out', ho, ho' => by
    unfold mulLoop
    rw [step_xor h ho ho']
    have h1 := step_lt h ho
    have h2 := step_lt h ho'
    by_cases hb : b / 2 ^ j % 2 = 1
    · simp only [hb, if_true]
      rw [show step F out ^^^ step F out' ^^^ (a ^^^ a') = (step F out ^^^ a) ^^^ (step F out' ^^^ a') from by
        apply Nat.eq_of_testBit_eq; intro i; simp only [Nat.testBit_xor]
        cases (step F out).testBit i <;> cases (step F out').testBit i <;> cases a.testBit i <;> cases a'.testBit i <;> rfl]
      exact mulLoop_xor h b ha ha' j _ _ (Nat.xor_lt_two_pow h1 ha) (Nat.xor_lt_two_pow h2 ha')
    · simp only [hb, if_false]
      exact mulLoop_xor h b ha ha' j _ _ h1 h2
theorem xor_mul (h : Ok F) {a a' : Nat} (b : Nat) (ha : a < F.s) (ha' : a' < F.s) : mul F (a ^^^ a') b = mul F a b ^^^ mul F a' b := by
  have := mulLoop_xor h b ha ha' F.m 0 0 (s_pos F) (s_pos F)
  rw [Nat.xor_self] at this
  exact this
theorem mul_xor (h : Ok F) {a b b' : Nat} (ha : a < F.s) (hb : b < F.s) (hb' : b' < F.s) : mul F a (b ^^^ b') = mul F a b ^^^ mul F a b' := by
  rw [mul_comm h ha (Nat.xor_lt_two_pow hb hb'), xor_mul h a hb hb', mul_comm h hb ha, mul_comm h hb' ha]
/-- The inverse of an element that is not 0. -/
def inv (F : Fd) (a : Nat) : Nat := ex F (F.s - 1 - lg F a)
theorem inv_lt (h : Ok F) (a : Nat) : inv F a < F.s := ex_lt h _
theorem inv_pos (h : Ok F) (a : Nat) : 0 < inv F a := ex_pos h _
theorem mul_inv (h : Ok F) {a : Nat} (a0 : 0 < a) (ha : a < F.s) : mul F a (inv F a) = 1 := by
  obtain ⟨h1, e1⟩ := lg_spec h a0 ha
  unfold inv
  have : mul F a (ex F (F.s - 1 - lg F a)) = mul F (ex F (lg F a)) (ex F (F.s - 1 - lg F a)) := by rw [e1]
  rw [this, mul_ex h, show lg F a + (F.s - 1 - lg F a) = F.s - 1 from by omega, ex_period h]
theorem inv_uniq (h : Ok F) {a b : Nat} (a0 : 0 < a) (ha : a < F.s) (hb : b < F.s) (he : mul F a b = 1) : b = inv F a := by
  have h1 : mul F (inv F a) (mul F a b) = mul F (inv F a) 1 := by rw [he]
  rw [← mul_assoc h (inv_lt h a) ha hb, mul_comm h (inv_lt h a) ha, mul_inv h a0 ha, one_mul h hb, mul_one h (inv_lt h a)] at h1
  exact h1
end
end Go.Proofs.YtopfdmmimgnciaaGreatDoor.Gf
namespace Go.Proofs.YtopfdmmimgnciaaGreatDoor
open Go.RowKit

/-- Natural numbers as ints. -/
def nv (xs : List Nat) : List Value := xs.map fun n : Nat => Value.int .i64 (n : Int)
theorem nv_len (xs : List Nat) : (nv xs).length = xs.length := by simp [nv]
theorem nv_at (xs : List Nat) (i : Nat) (h : i < xs.length) : (nv xs)[i]? = some (.int .i64 ((xs[i] : Nat) : Int)) := by simp [nv, h]
theorem nv_append (xs ys : List Nat) : nv (xs ++ ys) = nv xs ++ nv ys := by simp [nv]

/-- The bit at the head of a round that has j more to come. -/
def bitAt : Nat → Nat
  | 0 => 0
  | j + 1 => 2 ^ j
theorem bitAt_half (j : Nat) : bitAt (j + 1) / 2 = bitAt j := by
  cases j with
  | zero => rfl
  | succ j => show 2 ^ (j + 1) / 2 = 2 ^ j; rw [Nat.pow_succ]; omega
theorem times_any (F : Gf.Fd) (hF : Gf.Ok F) (h12 : F.m ≤ 12) (a b : Nat) (w : World) (ha : a < F.s) (hb : b < F.s) :
    Calls Tryz.prog 88 #[.agg #[.int .i64 F.p, .int .i64 F.s, .int .i64 F.b], .int .i64 a, .int .i64 b] w fun e w' => e = .returned (.int .i64 (Gf.mul F a b)) ∧ Below w.heap.size w w' := by
  have hs4 := Gf.s_ge4 hF
  have hs12 : F.s ≤ 4096 := by unfold Gf.Fd.s; exact Nat.pow_le_pow_right (n := 2) (i := F.m) (j := 12) (by decide) h12
  have hp := hF.hi
  have ehalf : (F.s : Int) / 2 = ((bitAt F.m : Nat) : Int) := by
    have hsm := Gf.s_split hF
    have h2 := hF.m2
    have e : bitAt F.m = 2 ^ (F.m - 1) := by
      obtain ⟨m, hm⟩ : ∃ m, F.m = m + 1 := ⟨F.m - 1, by omega⟩
      rw [hm]; rfl
    rw [e, hsm]; omega
  have HH := Lib.hid ehalf; clear ehalf
  have HF := Lib.hid hF; clear hF
  go_enter Tryz.func88, Tryz.ntmps88
  go_wp2
  rw [HH.out]
  go_loopw [7, 8] (fun o t wr => ∃ j out q : Nat, out < F.s ∧ q ≤ 4096 ∧ o = .int .i64 out ∧ t = .int .i64 q ∧ Hid (q = bitAt j) ∧ Hid (Gf.mulLoop F a b j out = Gf.mul F a b) ∧
      wr = (w.alloc (.cells #[.int .i64 F.p, .int .i64 F.s, .int .i64 F.b] 30))) (fun _ t _ => (intOf t).toNat)
  case atStart =>
    refine ⟨F.m, 0, bitAt F.m, by omega, ?_, rfl, rfl, rfl, rfl, rfl⟩
    have := HH.out; omega
  case round =>
    obtain ⟨j, out, q, ho, hq, rfl, rfl, HQ, HM, rfl⟩ := hrel
    by_cases hz : 0 < q
    · obtain ⟨i, rfl⟩ : ∃ i, j = i + 1 := by
        cases j with
        | zero => have := HQ.out; simp [bitAt] at this; omega
        | succ i => exact ⟨i, rfl⟩
      have ex1 : bits .xor .i64 ((out : Int) * 2) (F.p : Int) = ((2 * out ^^^ F.p : Nat) : Int) := by
        have := i64_xor (2 * out) F.p (by omega) (by omega)
        rw [← this]; congr 1; omega
      have hx1 := Gf.step_lt HF.out ho
      have ex2 : bits .xor .i64 ((Gf.step F out : Nat) : Int) (a : Int) = ((Gf.step F out ^^^ a : Nat) : Int) := i64_xor _ _ (by omega) (by omega)
      have hx2 : Gf.step F out ^^^ a < F.s := Nat.xor_lt_two_pow hx1 ha
      have hstep : Gf.step F out = if F.s ≤ 2 * out then 2 * out ^^^ F.p else 2 * out := rfl
      have hml : Gf.mulLoop F a b (i + 1) out = Gf.mulLoop F a b i (if b / 2 ^ i % 2 = 1 then Gf.step F out ^^^ a else Gf.step F out) := rfl
      have HQ' := HQ.out
      have hqe : q = 2 ^ i := HQ'
      have hq2 : q / 2 = bitAt i := by rw [HQ']; exact bitAt_half i
      rw [hml, ← hqe] at HM
      have HQ2 := Lib.hid hq2
      clear hq2 hqe HQ' hml
      have hc : ((b : Int) / (q : Int) % 2 == 1) = decide (b / q % 2 = 1) := by
        rw [Bool.eq_iff_iff, beq_iff_eq, decide_eq_true_eq]; omega
      have hd0 : 0 ≤ (b : Int) / (q : Int) := Int.ediv_nonneg (by omega) (by omega)
      have hd1 : (b : Int) / (q : Int) ≤ 4096 := Int.le_trans (Int.ediv_le_self _ (by omega)) (by omega)
      generalize Gf.step F out = so at *
      have HSo := Lib.hid hstep; clear hstep
      by_cases h1 : F.s ≤ 2 * out
      · have e1 : ((2 * out ^^^ F.p : Nat) : Int) = (so : Int) := by rw [HSo.out, if_pos h1]
        rw [e1] at ex1
        by_cases h2 : b / q % 2 = 1
        · rw [decide_eq_true h2] at hc
          clear e1 HSo
          go_wp2
          go_roundw
          case rel => exact ⟨i, _, q / 2, hx2, by omega, rfl, by go_num, HQ2, by rw [if_pos h2] at HM; exact HM, trivial⟩
          case measure => simp [intOf]; omega
        · rw [decide_eq_false h2] at hc
          clear e1 HSo ex2
          go_wp2
          go_roundw
          case rel => exact ⟨i, _, q / 2, hx1, by omega, rfl, by go_num, HQ2, by rw [if_neg h2] at HM; exact HM, trivial⟩
          case measure => simp [intOf]; omega
      · have e1 : (out : Int) * 2 = (so : Int) := by rw [HSo.out, if_neg h1]; omega
        clear ex1
        by_cases h2 : b / q % 2 = 1
        · rw [decide_eq_true h2] at hc
          clear HSo
          go_wp2
          go_roundw
          case rel => exact ⟨i, _, q / 2, hx2, by omega, rfl, by go_num, HQ2, by rw [if_pos h2] at HM; exact HM, trivial⟩
          case measure => simp [intOf]; omega
        · rw [decide_eq_false h2] at hc
          clear HSo ex2
          go_wp2
          go_roundw
          case rel => exact ⟨i, _, q / 2, hx1, by omega, rfl, by go_num, HQ2, by rw [if_neg h2] at HM; exact HM, trivial⟩
          case measure => simp [intOf]; omega
    · obtain rfl : q = 0 := by omega
      have hj : j = 0 := by
        cases j with
        | zero => rfl
        | succ j => have := HQ.out; have h2 := Nat.two_pow_pos j; simp only [bitAt] at this; omega
      subst hj
      go_wp2
      go_ret
      exact ⟨ret_int (by have := HM.out; simp only [Gf.mulLoop] at this; rw [this]), by go_grown⟩
end Go.Proofs.YtopfdmmimgnciaaGreatDoor
namespace Go.Proofs.YtopfdmmimgnciaaGreatDoor
open Go.RowKit

theorem s_le (F : Gf.Fd) (h12 : F.m ≤ 12) : F.s ≤ 4096 := by unfold Gf.Fd.s; exact Nat.pow_le_pow_right (n := 2) (i := F.m) (j := 12) (by decide) h12

theorem info_int : (Tryz.prog.info? 3).map (fun i => (i.zero, i.size, i.bytes)) = some (some (.int .i64 0), 1, 8) := by kernel_rfl

end Go.Proofs.YtopfdmmimgnciaaGreatDoor
namespace Go.Proofs.YtopfdmmimgnciaaGreatDoor
open Go.RowKit

end Go.Proofs.YtopfdmmimgnciaaGreatDoor
namespace Go.Proofs.YtopfdmmimgnciaaGreatDoor
open Go.RowKit

/-! ### Lists without zeros ahead -/
def tidy : List Nat → List Nat
  | [] => []
  | [x] => [x]
  | x :: y :: r => if x = 0 then tidy (y :: r) else x :: y :: r
theorem tidy_zeros : ∀ (xs : List Nat), xs ≠ [] → (∀ x ∈ xs, x = 0) → tidy xs = [0]
  | [], h, _ => absurd rfl h
  | [x], _, h => by rw [show x = 0 from h x (by simp)]; rfl
  | x :: y :: r, _, h => by
    unfold tidy
    rw [if_pos (h x (by simp))]
    exact tidy_zeros (y :: r) (by simp) (fun z hz => h z (by simp only [List.mem_cons] at hz ⊢; exact Or.inr hz))
theorem tidy_drop : ∀ (k : Nat) (xs : List Nat), (∀ j, j < k → xs.getD j 1 = 0) → k < xs.length → xs.getD k 0 ≠ 0 → tidy xs = xs.drop k
  | 0, [], _, hl, _ => absurd hl (by simp)
  | 0, [x], _, _, _ => rfl
  | 0, x :: y :: r, _, _, hx => by unfold tidy; rw [if_neg (by simpa using hx)]; rfl
  | k + 1, [], _, hl, _ => absurd hl (by simp)
  | k + 1, [x], _, hl, _ => absurd hl (by simp)
  | k + 1, x :: y :: r, h0, hl, hx => by
    unfold tidy
    rw [if_pos (by simpa using h0 0 (by omega))]
    rw [tidy_drop k (y :: r) (fun j hj => by simpa using h0 (j + 1) (by omega)) (by simpa using hl) (by simpa using hx)]
    rfl
/-- All ahead of the last one are zeros: the last one is left. -/
theorem tidy_last : ∀ (k : Nat) (xs : List Nat), (∀ j, j < k → xs.getD j 1 = 0) → k + 1 = xs.length → tidy xs = xs.drop k
  | 0, [], _, hl => absurd hl (by simp)
  | 0, [x], _, _ => rfl
  | 0, x :: y :: r, _, hl => absurd hl (by simp)
  | k + 1, [], _, hl => absurd hl (by simp)
  | k + 1, [x], _, hl => absurd hl (by simp)
  | k + 1, x :: y :: r, h0, hl => by
    unfold tidy
    rw [if_pos (by simpa using h0 0 (by omega))]
    rw [tidy_last k (y :: r) (fun j hj => by simpa using h0 (j + 1) (by omega)) (by simpa using hl)]
    rfl
theorem tidy_ne : ∀ xs : List Nat, xs ≠ [] → tidy xs ≠ []
  | [], h => absurd rfl h
  | [x], _ => by simp [tidy]
  | x :: y :: r, _ => by unfold tidy; split; exact tidy_ne (y :: r) (by simp); simp
theorem tidy_mem : ∀ (xs : List Nat) (x : Nat), x ∈ tidy xs → x ∈ xs
  | [], _, h => h
  | [x], _, h => h
  | x :: y :: r, z, h => by
    unfold tidy at h
    split at h
    · exact List.mem_cons_of_mem _ (tidy_mem (y :: r) z h)
    · exact h
theorem tidy_len : ∀ (xs : List Nat), (tidy xs).length ≤ xs.length
  | [] => Nat.le_refl _
  | [x] => Nat.le_refl _
  | x :: y :: r => by
    unfold tidy
    split
    · have := tidy_len (y :: r); simp only [List.length_cons] at this ⊢; omega
    · exact Nat.le_refl _
/-- A tidy list: alone, or its first is not zero. -/
def Tidy (xs : List Nat) : Prop := xs ≠ [] ∧ (xs.length = 1 ∨ xs.getD 0 0 ≠ 0)
theorem tidy_tidy : ∀ xs : List Nat, xs ≠ [] → Tidy (tidy xs)
  | [], h => absurd rfl h
  | [x], _ => ⟨by simp [tidy], .inl rfl⟩
  | x :: y :: r, _ => by
    unfold tidy
    split
    · exact tidy_tidy (y :: r) (by simp)
    · rename_i h; exact ⟨by simp, .inr (by simpa using h)⟩
theorem tidy_of : ∀ xs : List Nat, Tidy xs → tidy xs = xs
  | [], h => absurd rfl h.1
  | [x], _ => rfl
  | x :: y :: r, h => by
    unfold tidy
    rw [if_neg]
    rcases h.2 with h1 | h1
    · simp at h1
    · simpa using h1

theorem getD_lt (xs : List Nat) (k d : Nat) (h : k < xs.length) : xs.getD k d = xs[k] := by simp [List.getD, h]

/-! ### A polynomial in memory -/
/-- Block q is a polynomial of the field in block g, with the coefficients l, the highest first. -/
def PolyAt (w : World) (q g : Nat) (l : List Nat) : Prop :=
  ∃ sl, Blk w q 187 #[.pointer (some ⟨g, 0, none⟩), sl] ∧ RdT w 3 sl (nv l)
theorem PolyAt.up {w w' : World} {q g : Nat} {l : List Nat} (h : PolyAt w q g l) (hb : Below w.heap.size w w') : PolyAt w' q g l := by
  obtain ⟨sl, h1, h2⟩ := h
  exact ⟨sl, h1.up hb, h2.up hb⟩
theorem PolyAt.far {w : World} {q g : Nat} {l : List Nat} (h : PolyAt w q g l) {p : Addr} {t : TypeId} {cs : Array Value} (hp : Blk w p.block t cs) (ht : t ≠ 3) (ht' : t ≠ 187) (u : Value) : PolyAt (w.setCell p u) q g l := by
  obtain ⟨sl, h1, h2⟩ := h
  refine ⟨sl, h1.far (fun he => ?_) u, h2.far hp ht u⟩
  subst he
  unfold Blk at h1 hp
  rw [h1] at hp
  injection hp with hp
  injection hp with _ h6
  exact ht' h6.symm
theorem PolyAt.lt {w : World} {q g : Nat} {l : List Nat} (h : PolyAt w q g l) : q < w.heap.size := by obtain ⟨_, h1, _⟩ := h; exact h1.lt

/-- What is handed back where a polynomial is made: it, and no error. -/
def MadePoly (w : World) (g : Nat) (l : List Nat) (e : Ending) (w' : World) : Prop :=
  ∃ q, e = .returned (.tuple #[.pointer (some ⟨q, 0, none⟩), .nilIface]) ∧ PolyAt w' q g l ∧ Below w.heap.size w w'

set_option maxRecDepth 100000 in
set_option maxHeartbeats 1000000 in
/-- NewGenericGFPoly. -/
theorem newPoly_any (g : Nat) (l : Value) (xs : List Nat) (w : World) (hl : RdT w 3 l (nv xs)) (hne : xs ≠ []) :
    Calls Tryz.prog 96 #[.pointer (some ⟨g, 0, none⟩), l] w (MadePoly w g (tidy xs)) := by
  have hpos : 0 < xs.length := by rcases xs with _ | ⟨x, r⟩; exact absurd rfl hne; simp
  have hl0 := hl
  obtain ⟨A, ca, rfl, ha1, ha2, ha3⟩ := hl.rd
  simp only [nv_len] at *
  unfold maxLen at ha2
  obtain ⟨ba, oa, rfl, hba, hca⟩ := ha3 hpos
  have e0 : ((xs.length : Int) == 0) = false := by simp; omega
  have c0 := hca 0 _ (nv_at xs 0 hpos)
  simp only [Nat.add_zero] at c0
  have HL := Lib.hid hl0; clear hl0
  have HC := Lib.hid hca; clear hca
  clear hne
  by_cases h1 : 1 < xs.length
  · by_cases hx : xs[0] = 0
    · have e1 : (((xs[0] : Nat) : Int) == 0) = true := by simp [hx]
      have HX := Lib.hid hx; clear hx
      go_enter Tryz.func96, Tryz.ntmps96
      go_wp2
      go_loop [8] (fun i => ∃ k : Nat, 1 ≤ k ∧ k ≤ xs.length ∧ i = .int .i64 k ∧ Hid (∀ j, j < k → xs.getD j 1 = 0)) (fun i => xs.length - (intOf i).toNat)
      case atStart => exact ⟨1, Nat.le_refl _, by omega, rfl, fun j hj => by rw [show j = 0 from by omega, getD_lt _ _ _ hpos]; exact HX.out⟩
      case round =>
        obtain ⟨k, hk1, hk, rfl, HZ⟩ := hrel
        by_cases hlt : k < xs.length
        · have hck := HC.out k _ (nv_at xs k hlt)
          have ck : (w.alloc (.cells #[.pointer (some ⟨g, 0, none⟩), .slice none 0 0] 187)).cell? ⟨ba, oa + k, none⟩ = some (.int .i64 ((xs[k] : Nat) : Int)) := cell_up hck ((Below.refl _ _).alloc (Nat.le_refl _) _)
          clear hck
          by_cases hxk : xs[k] = 0
          · have e2 : (((xs[k] : Nat) : Int) == 0) = true := by simp [hxk]
            have HXK := Lib.hid hxk; clear hxk
            go_wp2
            go_round
            case rel => exact ⟨k + 1, by omega, by omega, by go_num, fun j hj => by
              by_cases hjk : j < k
              · exact HZ.out j hjk
              · rw [show j = k from by omega, getD_lt _ _ _ hlt]; exact HXK.out⟩
            case measure => simp [intOf]; omega
          · have e2 : (((xs[k] : Nat) : Int) == 0) = false := by simp [hxk]
            have HXK := Lib.hid hxk; clear hxk
            have e3 : ((k : Int) == (xs.length : Int)) = false := by simp; omega
            go_wp2
            go_ret2
            have ht : tidy xs = xs.drop k := tidy_drop k xs HZ.out hlt (by rw [getD_lt _ _ _ hlt]; exact HXK.out)
            rw [ht]
            refine ⟨_, rfl, ⟨_, Blk.fresh _ _ _, ?_⟩, by go_grown⟩
            have hn : nv (xs.drop k) = (nv xs).drop k := by simp [nv]
            rw [hn]
            exact (HL.out.up ((Below.refl _ _).alloc (Nat.le_refl _) _)).drop hlt
        · obtain rfl : k = xs.length := by omega
          go_wp2
          go_ret2
          have ht : tidy xs = [0] := tidy_zeros xs (by rintro rfl; simp at hpos) (fun x hx => by
            obtain ⟨j, hj, rfl⟩ := List.getElem_of_mem hx
            rw [← getD_lt _ _ 1 hj]; exact HZ.out j hj)
          rw [ht]
          refine ⟨_, rfl, ⟨_, (Blk.fresh _ _ _).alloc _, ?_⟩, by go_grown⟩
          exact RdT.of_blk (cap := 1) (xs := nv [0]) (by simpa [nv] using Blk.fresh (w.alloc (.cells #[.pointer (some ⟨g, 0, none⟩), .slice (some ⟨w.heap.size + 1, 0, none⟩) 1 1] 187)) 3 #[.int .i64 0]) rfl (by simp [nv]) (by decide)
    · have e1 : (((xs[0] : Nat) : Int) == 0) = false := by simp [hx]
      have HX := Lib.hid hx; clear hx
      go_enter Tryz.func96, Tryz.ntmps96
      go_wp2
      go_ret2
      have ht : tidy xs = xs := tidy_of xs ⟨by rintro rfl; simp at hpos, .inr (by rw [getD_lt _ _ _ hpos]; exact HX.out)⟩
      rw [ht]
      exact ⟨_, rfl, ⟨_, Blk.fresh _ _ _, HL.out.up ((Below.refl _ _).alloc (Nat.le_refl _) _)⟩, by go_grown⟩
  · go_enter Tryz.func96, Tryz.ntmps96
    go_wp2
    go_ret2
    have ht : tidy xs = xs := tidy_of xs ⟨by rintro rfl; simp at hpos, .inl (by omega)⟩
    rw [ht]
    exact ⟨_, rfl, ⟨_, Blk.fresh _ _ _, HL.out.up ((Below.refl _ _).alloc (Nat.le_refl _) _)⟩, by go_grown⟩
end Go.Proofs.YtopfdmmimgnciaaGreatDoor
namespace Go.Proofs.YtopfdmmimgnciaaGreatDoor
open Go.RowKit

/-- Block g is the field F: its tables, its polynomials 0 and 1, its numbers. -/
structure GfAt (w : World) (g : Nat) (F : Gf.Fd) (ge gl qz qo : Nat) (ce cl : Array Value) : Prop where
  blk : Blk w g 185 #[.slice (some ⟨ge, 0, none⟩) F.s F.s, .slice (some ⟨gl, 0, none⟩) F.s F.s, .pointer (some ⟨qz, 0, none⟩), .pointer (some ⟨qo, 0, none⟩), .int .i64 F.s, .int .i64 F.p, .int .i64 F.b]
  exps : Blk w ge 3 ce
  exp : ∀ i, i < F.s → ce[i]? = some (.int .i64 (Gf.ex F i : Nat))
  logs : Blk w gl 3 cl
  log : ∀ i, i < F.s - 1 → cl[Gf.ex F i]? = some (.int .i64 (i : Nat))
  zero : PolyAt w qz g [0]
  one : PolyAt w qo g [1]
/-- Block g is the field F. -/
def FieldAt (w : World) (g : Nat) (F : Gf.Fd) : Prop := ∃ ge gl qz qo ce cl, GfAt w g F ge gl qz qo ce cl
theorem FieldAt.up {w w' : World} {g : Nat} {F : Gf.Fd} (h : FieldAt w g F) (hb : Below w.heap.size w w') : FieldAt w' g F := by
  obtain ⟨ge, gl, qz, qo, ce, cl, h⟩ := h
  exact ⟨ge, gl, qz, qo, ce, cl, h.blk.up hb, h.exps.up hb, h.exp, h.logs.up hb, h.log, h.zero.up hb, h.one.up hb⟩
theorem FieldAt.lt {w : World} {g : Nat} {F : Gf.Fd} (h : FieldAt w g F) : g < w.heap.size := by
  obtain ⟨ge, gl, qz, qo, ce, cl, h⟩ := h; exact h.blk.lt

def MadeField (w : World) (F : Gf.Fd) (e : Ending) (w' : World) : Prop :=
  ∃ g, e = .returned (.pointer (some ⟨g, 0, none⟩)) ∧ FieldAt w' g F ∧ Below w.heap.size w w'

set_option maxRecDepth 100000 in
set_option maxHeartbeats 2000000 in
/-- NewGenericGF. -/
theorem newField_any (F : Gf.Fd) (hF : Gf.Ok F) (h12 : F.m ≤ 12) (w : World) :
    Calls Tryz.prog 93 #[.int .i64 F.p, .int .i64 F.s, .int .i64 F.b] w (MadeField w F) := by
  have hs4 := Gf.s_ge4 hF
  have hs12 := s_le F h12
  have hp := hF.hi
  have HF := Lib.hid hF; clear hF
  have hmk := fun W => run_mk (P := Tryz.prog) 25 3 (.int .i64 0) 8 Tryz.underlying25 info_int rfl F.s (by omega) (by omega) W
  go_enter Tryz.func93, Tryz.ntmps93
  go_wp2
  clear hmk
  go_loopw [10, 11] (fun x i wr => ∃ (k xn : Nat) (ce : Array Value), k ≤ F.s ∧ xn < F.s ∧ x = .int .i64 (xn : Nat) ∧ i = .int .i64 (k : Nat) ∧ Hid (xn = Gf.ex F k) ∧ Hid (Blk wr (w.heap.size + 1) 3 ce) ∧ Hid (ce.size = F.s) ∧
      Hid (∀ j, j < k → ce[j]? = some (.int .i64 (Gf.ex F j : Nat))) ∧
      Hid (Blk wr w.heap.size 185 #[.slice none 0 0, .slice none 0 0, .pointer none, .pointer none, .int .i64 F.s, .int .i64 F.p, .int .i64 F.b]) ∧
      Hid (Blk wr (w.heap.size + 2) 3 (rep F.s (.int .i64 0))) ∧ Hid (Below w.heap.size w wr)) (fun _ i _ => F.s - (intOf i).toNat)
  case atStart =>
    refine ⟨0, 1, rep F.s (.int .i64 0), Nat.zero_le _, by omega, rfl, rfl, rfl, ?_, rep_size _ _, fun j hj => absurd hj (Nat.not_lt_zero _), ?_, ?_, ?_⟩
    · exact Blk.alloc (Blk.fresh' (by simp)) _
    · exact ((Blk.fresh w _ _).alloc _).alloc _
    · exact Blk.fresh' (by simp)
    · show Below _ _ _; go_grown
  case round =>
    obtain ⟨k, xn, ce, hk, hx, rfl, rfl, HX, HE, HS, HJ, HG, HL, HB⟩ := hrel
    by_cases hlt : k < F.s
    · have hc : wr.cell? ⟨w.heap.size + 1, k, none⟩ = some (ce[k]'(by rw [HS.out]; exact hlt)) := by rw [HE.out.cell]; simp
      have hf : wr.frozen? ⟨w.heap.size + 1, k, none⟩ = false := HE.out.frozen k
      generalize ce[k]'(by rw [HS.out]; exact hlt) = old at hc
      have hst := Gf.step_lt HF.out hx
      have hstep : Gf.step F xn = if F.s ≤ 2 * xn then 2 * xn ^^^ F.p else 2 * xn := rfl
      have ex1 : bits .xor .i64 ((xn : Int) * 2) (F.p : Int) = ((2 * xn ^^^ F.p : Nat) : Int) := by
        have := i64_xor (2 * xn) F.p (by omega) (by omega)
        rw [← this]; congr 1; omega
      have ex2 : bits .and .i64 ((Gf.step F xn : Nat) : Int) ((F.s : Int) - 1) = ((Gf.step F xn : Nat) : Int) := by
        have h1 := i64_and (Gf.step F xn) (F.s - 1) (by omega) (by omega)
        have h2 : ((F.s - 1 : Nat) : Int) = (F.s : Int) - 1 := by omega
        rw [h2] at h1
        rw [h1]
        have h3 : Gf.step F xn &&& (F.s - 1) = Gf.step F xn := by
          show Gf.step F xn &&& (2 ^ F.m - 1) = _
          rw [Nat.and_two_pow_sub_one_eq_mod]; exact Nat.mod_eq_of_lt hst
        rw [h3]
      have HXS : Hid (Gf.step F xn = Gf.ex F (k + 1)) := by rw [HX.out]; rfl
      have HE' : Hid (Blk (wr.setCell ⟨w.heap.size + 1, k, none⟩ (.int .i64 (xn : Nat))) (w.heap.size + 1) 3 (ce.setIfInBounds k (.int .i64 (xn : Nat)))) := HE.out.put k _
      have HS' : Hid ((ce.setIfInBounds k (.int .i64 (xn : Nat))).size = F.s) := by
        show Array.size _ = _
        rw [Array.size_setIfInBounds]; exact HS.out
      have HJ' : Hid (∀ j, j < k + 1 → (ce.setIfInBounds k (.int .i64 (xn : Nat)))[j]? = some (.int .i64 (Gf.ex F j : Nat))) := fun j hj => by
        rw [Array.getElem?_setIfInBounds]
        by_cases hjk : k = j
        · subst hjk
          rw [if_pos rfl, if_pos (by rw [HS.out]; exact hlt), HX.out]
        · rw [if_neg hjk]; exact HJ.out j (by omega)
      have HG' := Lib.hid (HG.out.far (p := ⟨w.heap.size + 1, k, none⟩) (by simp) (.int .i64 (xn : Nat)))
      have HL' := Lib.hid (HL.out.far (p := ⟨w.heap.size + 1, k, none⟩) (by simp) (.int .i64 (xn : Nat)))
      have HB' := Lib.hid (HB.out.setCell (p := ⟨w.heap.size + 1, k, none⟩) (by simp) (.int .i64 (xn : Nat)))
      generalize Gf.step F xn = sx at *
      have HST := Lib.hid hstep; clear hstep
      by_cases h1 : F.s ≤ 2 * xn
      · rw [show ((2 * xn ^^^ F.p : Nat) : Int) = (sx : Int) from by rw [HST.out, if_pos h1]] at ex1
        clear HST
        go_wp2
        go_roundw
        case rel => exact ⟨k + 1, sx, _, by omega, hst, rfl, by go_num, HXS, HE', HS', HJ', HG', HL', HB'⟩
        case measure => simp [intOf]; omega
      · have e1 : (xn : Int) * 2 = (sx : Int) := by rw [HST.out, if_neg h1]; omega
        clear HST ex1 ex2
        go_wp2
        go_roundw
        case rel => exact ⟨k + 1, sx, _, by omega, hst, rfl, by go_num, HXS, HE', HS', HJ', HG', HL', HB'⟩
        case measure => simp [intOf]; omega
    · obtain rfl : k = F.s := by omega
      clear HX hx hk hlt
      go_wp2
      go_loopw [12] (fun i wq => ∃ (k : Nat) (cl : Array Value), k ≤ F.s - 1 ∧ i = .int .i64 (k : Nat) ∧ Hid (Blk wq (w.heap.size + 1) 3 ce) ∧ Hid (Blk wq (w.heap.size + 2) 3 cl) ∧ Hid (cl.size = F.s) ∧
          Hid (∀ j, j < k → cl[Gf.ex F j]? = some (.int .i64 (j : Nat))) ∧
          Hid (Blk wq w.heap.size 185 #[.slice none 0 0, .slice none 0 0, .pointer none, .pointer none, .int .i64 F.s, .int .i64 F.p, .int .i64 F.b]) ∧
          Hid (Below w.heap.size w wq)) (fun i _ => F.s - (intOf i).toNat)
      case atStart => exact ⟨0, _, Nat.zero_le _, rfl, HE, HL, rep_size _ _, fun j hj => absurd hj (Nat.not_lt_zero _), HG, HB⟩
      case round =>
        clear HE HL HG HB
        obtain ⟨k, cl, hk, rfl, HE, HL, HLS, HLJ, HG, HB⟩ := hrel
        by_cases hlt : k < F.s - 1
        · have hxk := Gf.ex_lt HF.out k
          have c1 : wr.cell? ⟨w.heap.size + 1, k, none⟩ = some (.int .i64 (Gf.ex F k : Nat)) := by rw [HE.out.cell]; exact HJ.out k (by omega)
          have HLJ' : Hid (∀ j, j < k + 1 → (cl.setIfInBounds (Gf.ex F k) (.int .i64 (k : Nat)))[Gf.ex F j]? = some (.int .i64 (j : Nat))) := fun j hj => by
            rw [Array.getElem?_setIfInBounds]
            by_cases hjk : j = k
            · subst hjk
              rw [if_pos rfl, if_pos (by rw [HLS.out]; exact hxk)]
            · rw [if_neg (fun he => hjk (Gf.ex_inj HF.out (by omega) (by omega) he.symm))]
              exact HLJ.out j (by omega)
          generalize Gf.ex F k = xk at *
          have c2 : wr.cell? ⟨w.heap.size + 2, xk, none⟩ = some (cl[xk]'(by rw [HLS.out]; exact hxk)) := by rw [HL.out.cell]; simp
          have f2 : wr.frozen? ⟨w.heap.size + 2, xk, none⟩ = false := HL.out.frozen xk
          generalize cl[xk]'(by rw [HLS.out]; exact hxk) = old at c2
          have HE' := Lib.hid (HE.out.far (p := ⟨w.heap.size + 2, xk, none⟩) (by simp) (.int .i64 (k : Nat)))
          have HL' := Lib.hid (HL.out.put xk (.int .i64 (k : Nat)))
          have HLS' : Hid ((cl.setIfInBounds xk (.int .i64 (k : Nat))).size = F.s) := by
            show Array.size _ = _
            rw [Array.size_setIfInBounds]; exact HLS.out
          have HG' := Lib.hid (HG.out.far (p := ⟨w.heap.size + 2, xk, none⟩) (by simp) (.int .i64 (k : Nat)))
          have HB' := Lib.hid (HB.out.setCell (p := ⟨w.heap.size + 2, xk, none⟩) (by simp) (.int .i64 (k : Nat)))
          go_wp2
          go_roundw
          case rel => exact ⟨k + 1, _, by omega, by go_num, HE', HL', HLS', HLJ', HG', HB'⟩
          case measure => simp [intOf]; omega
        · obtain rfl : k = F.s - 1 := by omega
          clear hlt hk
          have g0 := HG.out.cell 0
          have g1 := HG.out.cell 1
          have f0 := HG.out.frozen 0
          have f1 := HG.out.frozen 1
          simp at g0 g1
          go_wp2_with fail
          refine (newPoly_any w.heap.size _ [0] _ (RdT.one (by simp) 3 (.int .i64 0)) (by simp)).mono ?_
          rintro e w1 ⟨qz, rfl, hz, hb1⟩
          have G1 := ((((HG.out.put 0 _).put 1 _).alloc _).up hb1)
          simp only [List.setIfInBounds_toArray, List.set_cons_zero, List.set_cons_succ] at G1
          have E1 := ((((HE.out.far (p := ⟨w.heap.size, 0, none⟩) (by simp) _).far (p := ⟨w.heap.size, 1, none⟩) (by simp) _).alloc _).up hb1)
          have L1 := ((((HL.out.far (p := ⟨w.heap.size, 0, none⟩) (by simp) _).far (p := ⟨w.heap.size, 1, none⟩) (by simp) _).alloc _).up hb1)
          have B1 := below_up (((HB.out.setCell (p := ⟨w.heap.size, 0, none⟩) (by simp) _).setCell (p := ⟨w.heap.size, 1, none⟩) (by simp) _).alloc (by have := HB.out.size; simp; omega) _) hb1 (by have := HB.out.size; simp; omega)
          clear g0 g1 f0 f1 hb1 HG HE HL HB
          have HG := Lib.hid G1
          have g2 := G1.cell 2
          have f2 := G1.frozen 2
          simp only [List.getElem?_toArray, List.getElem?_cons_succ, List.getElem?_cons_zero] at g2
          have HE := Lib.hid E1
          have HL := Lib.hid L1
          have HB := Lib.hid B1
          have HZ := Lib.hid hz
          clear G1 E1 L1 B1 hz
          go_wp2_with fail
          refine (newPoly_any w.heap.size _ [1] _ (RdT.one (by simp) 3 (.int .i64 1)) (by simp)).mono ?_
          rintro e w2 ⟨qo, rfl, ho, hb2⟩
          have G1 := (((HG.out.put 2 _).alloc _).up hb2)
          simp only [List.setIfInBounds_toArray, List.set_cons_zero, List.set_cons_succ] at G1
          have E1 := (((HE.out.far (p := ⟨w.heap.size, 2, none⟩) (by simp) _).alloc _).up hb2)
          have L1 := (((HL.out.far (p := ⟨w.heap.size, 2, none⟩) (by simp) _).alloc _).up hb2)
          have B1 := below_up ((HB.out.setCell (p := ⟨w.heap.size, 2, none⟩) (by simp) _).alloc (by have := HB.out.size; simp; omega) _) hb2 (by have := HB.out.size; simp; omega)
          have Z1 := (((HZ.out.far (p := ⟨w.heap.size, 2, none⟩) HG.out (by decide) (by decide) _).up (Below.alloc (Below.refl _ _) (Nat.le_refl _) _)).up hb2)
          clear g2 f2 hb2 HG HE HL HB HZ
          have HG := Lib.hid G1
          have g3 := G1.cell 3
          have f3 := G1.frozen 3
          simp only [List.getElem?_toArray, List.getElem?_cons_succ, List.getElem?_cons_zero] at g3
          have HE := Lib.hid E1
          have HL := Lib.hid L1
          have HB := Lib.hid B1
          have HZ := Lib.hid Z1
          have HO := Lib.hid ho
          clear G1 E1 L1 B1 Z1 ho
          go_wp2
          go_ret
          refine ⟨_, rfl, ⟨_, _, qz, qo, ce, cl, ?_, HE.out.far (by simp) _, HJ.out, HL.out.far (by simp) _, HLJ.out, ?_, ?_⟩, HB.out.setCell (by simp) _⟩
          · simpa using HG.out.put 3 (.pointer (some ⟨qo, 0, none⟩))
          · exact HZ.out.far (p := ⟨w.heap.size, 3, none⟩) HG.out (by decide) (by decide) _
          · exact HO.out.far (p := ⟨w.heap.size, 3, none⟩) HG.out (by decide) (by decide) _
end Go.Proofs.YtopfdmmimgnciaaGreatDoor
namespace Go.Proofs.YtopfdmmimgnciaaGreatDoor
open Go.RowKit

theorem Blk.three {w : World} {g : Nat} {t : TypeId} {a b c : Value} (h : Blk w g t #[a, b, c]) : w.cell? ⟨g, 0, none⟩ = some a ∧ w.cell? ⟨g, 1, none⟩ = some b ∧ w.cell? ⟨g, 2, none⟩ = some c := by
  rw [h.cell, h.cell, h.cell]; exact ⟨rfl, rfl, rfl⟩
/-- (*GenericGF).Inverse. -/
theorem inverse_any (g : Nat) (F : Gf.Fd) (hF : Gf.Ok F) (h12 : F.m ≤ 12) (a : Nat) (ha0 : 0 < a) (ha : a < F.s) (w : World) (hf : FieldAt w g F) :
    Calls Tryz.prog 121 #[.pointer (some ⟨g, 0, none⟩), .int .i64 a] w fun e w' => e = .returned (.tuple #[.int .i64 (Gf.inv F a : Nat), .nilIface]) ∧ Below w.heap.size w w' := by
  obtain ⟨ge, gl, qz, qo, ce, cl, h⟩ := hf
  have hs4 := Gf.s_ge4 hF
  have hs12 := s_le F h12
  obtain ⟨hlg, hex⟩ := Gf.lg_spec hF ha0 ha
  have e0 : ((a : Int) == 0) = false := by simp; omega
  have c0 : w.cell? ⟨g, 0, none⟩ = some (.slice (some ⟨ge, 0, none⟩) F.s F.s) := by rw [h.blk.cell]; rfl
  have c1 : w.cell? ⟨g, 1, none⟩ = some (.slice (some ⟨gl, 0, none⟩) F.s F.s) := by rw [h.blk.cell]; rfl
  have c4 : w.cell? ⟨g, 4, none⟩ = some (.int .i64 F.s) := by rw [h.blk.cell]; rfl
  have cl1 : w.cell? ⟨gl, a, none⟩ = some (.int .i64 (Gf.lg F a : Nat)) := by rw [h.logs.cell, ← hex]; rw [Gf.lg_ex hF (by rw [← Gf.lg_ex hF (i := Gf.lg F a) hlg]; rw [Gf.lg_ex hF hlg]; exact hlg)]; exact h.log _ hlg
  have ce1 : w.cell? ⟨ge, F.s - Gf.lg F a - 1, none⟩ = some (.int .i64 (Gf.inv F a : Nat)) := by
    rw [h.exps.cell]
    have := h.exp (F.s - Gf.lg F a - 1) (by omega)
    rw [this]; unfold Gf.inv; rw [show F.s - Gf.lg F a - 1 = F.s - 1 - Gf.lg F a from by omega]
  have ei : ((F.s : Int) - (Gf.lg F a : Nat) - 1) = ((F.s - Gf.lg F a - 1 : Nat) : Int) := by omega
  have HX := Lib.hid hex; clear hex
  have HH := Lib.hid h; clear h
  generalize Gf.inv F a = r at *
  generalize Gf.lg F a = la at *
  have hei : ((F.s : Int) - (la : Nat) - 1).toNat = F.s - la - 1 := by omega
  have HE := Lib.hid ei; clear ei
  go_enter Tryz.func121, Tryz.ntmps121
  go_wp2
  go_quiet (fail)
  go_wp2
  go_ret2
  exact ⟨rfl, below_drewN (Below.refl _ _) _⟩
end Go.Proofs.YtopfdmmimgnciaaGreatDoor
namespace Go.Proofs.YtopfdmmimgnciaaGreatDoor
open Go.RowKit

end Go.Proofs.YtopfdmmimgnciaaGreatDoor
