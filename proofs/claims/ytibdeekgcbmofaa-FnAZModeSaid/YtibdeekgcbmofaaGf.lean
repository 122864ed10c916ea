/-
  PLAIN: fields of 2^m elements as numbers: 'step' (times 2), 'mul' (the product by the bits of the second factor), 'ex' (powers of 2); that each of the six fields of the symbols has 2 for a generator; that 'mul' is what exponents say. No program in sight.
-/
namespace Go.Proofs.Ytibdeekgcbmofaa.Gf

structure Fd where
  p : Nat
  m : Nat
  b : Nat
def Fd.s (F : Fd) : Nat := 2 ^ F.m

def step (F : Fd) (y : Nat) : Nat := if F.s ≤ 2 * y then (2 * y) ^^^ F.p else 2 * y
def mulLoop (F : Fd) (a b : Nat) : Nat → Nat → Nat
  | 0, out => out
  | j + 1, out => mulLoop F a b j (if b / 2 ^ j % 2 = 1 then step F out ^^^ a else step F out)
def mul (F : Fd) (a b : Nat) : Nat := mulLoop F a b F.m 0
def ex (F : Fd) : Nat → Nat
  | 0 => 1
  | n + 1 => step F (ex F n)

/-- The powers of 2 from 'x' on: none of the next n is 1. -/
def noOne (F : Fd) : Nat → Nat → Bool
  | 0, _ => true
  | n + 1, x => (step F x != 1) && noOne F n (step F x)
def walkTo (F : Fd) : Nat → Nat → Nat
  | 0, x => x
  | n + 1, x => walkTo F n (step F x)
/-- What is asked of a field, by reckoning: at least 2 bits; the primitive one has its highest bit at m; 2 has no power 1 before the last. -/
def ok (F : Fd) : Bool := decide (2 ≤ F.m) && decide (F.s ≤ F.p) && decide (F.p < 2 * F.s) && decide (F.p % 2 = 1) && noOne F (F.s - 3) 2 && (walkTo F (F.s - 2) 2 == 1)

def fields : List Fd := [⟨0x13, 4, 1⟩, ⟨0x43, 6, 1⟩, ⟨0x12D, 8, 1⟩, ⟨0x11D, 8, 0⟩, ⟨0x409, 10, 1⟩, ⟨0x1069, 12, 1⟩]
theorem fields_ok : ∀ F ∈ fields, ok F = true := by decide +kernel

section
variable {F : Fd}
structure Ok (F : Fd) : Prop where
  m2 : 2 ≤ F.m
  lo : F.s ≤ F.p
  hi : F.p < 2 * F.s
  odd : F.p % 2 = 1
  none_ : noOne F (F.s - 3) 2 = true
  last : walkTo F (F.s - 2) 2 = 1
theorem Ok.of (h : ok F = true) : Ok F := by
  simp only [ok, Bool.and_eq_true, decide_eq_true_eq, beq_iff_eq] at h
  obtain ⟨⟨⟨⟨⟨h1, h2⟩, h3⟩, h4⟩, h5⟩, h6⟩ := h
  exact ⟨h1, h2, h3, h4, h5, h6⟩
theorem ok_of_mem (h : F ∈ fields) : Ok F := Ok.of (fields_ok F h)

theorem s_pos (F : Fd) : 0 < F.s := Nat.two_pow_pos _
theorem s_split (h : Ok F) : F.s = 2 * 2 ^ (F.m - 1) := by
  unfold Fd.s
  have := h.m2
  rw [← Nat.pow_succ']; congr 1; omega
theorem s_ge4 (h : Ok F) : 4 ≤ F.s := by
  have h2 := h.m2
  have : 2 ^ 2 ≤ 2 ^ F.m := Nat.pow_le_pow_right (by decide) h2
  exact this

theorem p_bit (h : Ok F) : F.p.testBit F.m = true := by
  have h1 : F.p / 2 ^ F.m = 1 := by
    have lo := h.lo; have hi := h.hi
    unfold Fd.s at lo hi
    exact Nat.div_eq_of_lt_le (by omega) (by omega)
  simp [Nat.testBit, Nat.shiftRight_eq_div_pow, h1]

theorem step_lt (h : Ok F) {y : Nat} (hy : y < F.s) : step F y < F.s := by
  unfold step
  split
  · rename_i hge
    have hlt : (2 * y) ^^^ F.p < 2 ^ (F.m + 1) := Nat.xor_lt_two_pow (by unfold Fd.s at hy; rw [Nat.pow_succ]; omega) (by have := h.hi; unfold Fd.s at this; rw [Nat.pow_succ]; omega)
    have hb : ((2 * y) ^^^ F.p).testBit F.m = false := by
      rw [Nat.testBit_xor, p_bit h]
      have h1 : (2 * y) / 2 ^ F.m = 1 := by unfold Fd.s at hge hy; exact Nat.div_eq_of_lt_le (by omega) (by omega)
      simp [Nat.testBit, Nat.shiftRight_eq_div_pow, h1]
    unfold Fd.s
    apply Nat.lt_of_not_le
    intro hle
    have h2 : ((2 * y) ^^^ F.p) / 2 ^ F.m = 1 := Nat.div_eq_of_lt_le (by omega) (by rw [Nat.pow_succ] at hlt; omega)
    simp [Nat.testBit, Nat.shiftRight_eq_div_pow, h2] at hb
  · omega

theorem two_mul_xor (x y : Nat) : 2 * (x ^^^ y) = (2 * x) ^^^ (2 * y) := by
  have h (n : Nat) : 2 * n = n <<< 1 := by rw [Nat.shiftLeft_eq]; omega
  rw [h, h, h, Nat.shiftLeft_xor_distrib]

theorem ge_iff (h : Ok F) {y : Nat} (hy : y < F.s) : F.s ≤ 2 * y ↔ y.testBit (F.m - 1) = true := by
  have hs := s_split h
  have e : y / 2 ^ (F.m - 1) % 2 = y / 2 ^ (F.m - 1) := Nat.mod_eq_of_lt (Nat.div_lt_of_lt_mul (by omega))
  constructor
  · intro hge
    have h1 : y / 2 ^ (F.m - 1) = 1 := Nat.div_eq_of_lt_le (by omega) (by omega)
    simp [Nat.testBit, Nat.shiftRight_eq_div_pow, h1]
  · intro ht
    apply Nat.le_of_not_lt
    intro hlt
    have h1 : y / 2 ^ (F.m - 1) = 0 := Nat.div_eq_of_lt (by omega)
    simp [Nat.testBit, Nat.shiftRight_eq_div_pow, h1] at ht

theorem step_xor (h : Ok F) {x y : Nat} (hx : x < F.s) (hy : y < F.s) : step F (x ^^^ y) = step F x ^^^ step F y := by
  have hxy : x ^^^ y < F.s := Nat.xor_lt_two_pow hx hy
  have e1 := ge_iff h hx
  have e2 := ge_iff h hy
  have e3 := ge_iff h hxy
  rw [Nat.testBit_xor] at e3
  unfold step
  rw [two_mul_xor] at *
  by_cases a : x.testBit (F.m - 1) = true <;> by_cases b : y.testBit (F.m - 1) = true
  · rw [if_neg (by rw [e3, a, b]; decide), if_pos (e1.2 a), if_pos (e2.2 b)]
    apply Nat.eq_of_testBit_eq; intro i; simp only [Nat.testBit_xor]
    cases (2 * x).testBit i <;> cases (2 * y).testBit i <;> cases F.p.testBit i <;> rfl
  · simp only [Bool.not_eq_true] at b
    rw [if_pos (e3.2 (by rw [a, b]; rfl)), if_pos (e1.2 a), if_neg (by rw [e2, b]; decide)]
    apply Nat.eq_of_testBit_eq; intro i; simp only [Nat.testBit_xor]
    cases (2 * x).testBit i <;> cases (2 * y).testBit i <;> cases F.p.testBit i <;> rfl
  · simp only [Bool.not_eq_true] at a
    rw [if_pos (e3.2 (by rw [a, b]; rfl)), if_neg (by rw [e1, a]; decide), if_pos (e2.2 b)]
    apply Nat.eq_of_testBit_eq; intro i; simp only [Nat.testBit_xor]
    cases (2 * x).testBit i <;> cases (2 * y).testBit i <;> cases F.p.testBit i <;> rfl
  · simp only [Bool.not_eq_true] at a b
    rw [if_neg (by rw [e3, a, b]; decide), if_neg (by rw [e1, a]; decide), if_neg (by rw [e2, b]; decide)]

theorem step_zero (F : Fd) : step F 0 = 0 := by
  unfold step
  have := s_pos F
  rw [if_neg (by omega)]
theorem step_ne (h : Ok F) {y : Nat} (hy : 0 < y) : step F y ≠ 0 := by
  unfold step
  split
  · intro h0
    have h1 : 2 * y = F.p := by
      have := congrArg (· ^^^ F.p) h0
      simpa [Nat.xor_assoc] using this
    have := h.odd
    omega
  · omega

theorem mulLoop_lt (h : Ok F) {a : Nat} (b : Nat) (ha : a < F.s) : ∀ (j out : Nat), out < F.s → mulLoop F a b j out < F.s
  | 0, out, ho => ho
  | j + 1, out, ho => by
    unfold mulLoop
    apply mulLoop_lt h b ha j
    split
    · exact Nat.xor_lt_two_pow (step_lt h ho) ha
    · exact step_lt h ho
theorem mul_lt (h : Ok F) {a : Nat} (b : Nat) (ha : a < F.s) : mul F a b < F.s := mulLoop_lt h b ha _ _ (s_pos F)

theorem mulLoop_step (h : Ok F) {a : Nat} (b : Nat) (ha : a < F.s) : ∀ (j out : Nat), out < F.s → mulLoop F (step F a) b j (step F out) = step F (mulLoop F a b j out)
  | 0, out, _ => rfl
  | j + 1, out, ho => by
    unfold mulLoop
    have h1 := step_lt h ho
    by_cases hb : b / 2 ^ j % 2 = 1
    · rw [if_pos hb, if_pos hb, ← step_xor h h1 ha]
      exact mulLoop_step h b ha j _ (Nat.xor_lt_two_pow h1 ha)
    · rw [if_neg hb, if_neg hb]
      exact mulLoop_step h b ha j _ h1
theorem mul_step (h : Ok F) {a : Nat} (b : Nat) (ha : a < F.s) : mul F (step F a) b = step F (mul F a b) := by
  have := mulLoop_step h b ha F.m 0 (s_pos F)
  rw [step_zero] at this
  exact this

theorem mulLoop_zero (F : Fd) (b : Nat) : ∀ j, mulLoop F 0 b j 0 = 0
  | 0 => rfl
  | j + 1 => by
    unfold mulLoop
    rw [step_zero]
    simp only [Nat.xor_zero, ite_self]
    exact mulLoop_zero F b j
theorem zero_mul (F : Fd) (b : Nat) : mul F 0 b = 0 := mulLoop_zero F b _
theorem mulLoop_of_zero (F : Fd) (a : Nat) : ∀ j, mulLoop F a 0 j 0 = 0
  | 0 => rfl
  | j + 1 => by
    unfold mulLoop
    rw [step_zero, if_neg (by simp)]
    exact mulLoop_of_zero F a j
theorem mul_zero (F : Fd) (a : Nat) : mul F a 0 = 0 := mulLoop_of_zero F a _

theorem mulLoop_one (h : Ok F) {b : Nat} (hb : b < F.s) : ∀ j, j ≤ F.m → mulLoop F 1 b j (b / 2 ^ j) = b
  | 0, _ => by simp [mulLoop]
  | j + 1, hj => by
    unfold mulLoop
    have h1 : 2 * (b / 2 ^ (j + 1)) < F.s := by
      have : b / 2 ^ (j + 1) * 2 ^ (j + 1) ≤ b := Nat.div_mul_le_self _ _
      have h2 : 2 ≤ 2 ^ (j + 1) := by rw [Nat.pow_succ]; have := Nat.two_pow_pos j; omega
      have h3 : b / 2 ^ (j + 1) * 2 ≤ b / 2 ^ (j + 1) * 2 ^ (j + 1) := Nat.mul_le_mul_left _ h2
      omega
    have h2 : step F (b / 2 ^ (j + 1)) = 2 * (b / 2 ^ (j + 1)) := by unfold step; rw [if_neg (by omega)]
    have h3 : b / 2 ^ (j + 1) = b / 2 ^ j / 2 := by rw [Nat.pow_succ, Nat.div_div_eq_div_mul]
    rw [h2]
    have ih := mulLoop_one h hb j (by omega)
    have h4 : (if b / 2 ^ j % 2 = 1 then 2 * (b / 2 ^ (j + 1)) ^^^ 1 else 2 * (b / 2 ^ (j + 1))) = b / 2 ^ j := by
      rw [h3]
      generalize b / 2 ^ j = q
      split
      · have e : 2 * (q / 2) ^^^ 1 = 2 * (q / 2) + 1 := by
          apply Nat.eq_of_testBit_eq; intro i
          rw [Nat.testBit_xor]
          cases i with
          | zero => simp [Nat.testBit_zero]
          | succ i => simp only [Nat.testBit_succ]; simp; congr 1; omega
        omega
      · omega
    rw [h4]; exact ih
theorem one_mul (h : Ok F) {b : Nat} (hb : b < F.s) : mul F 1 b = b := by
  have := mulLoop_one h hb F.m (Nat.le_refl _)
  rwa [show b / 2 ^ F.m = 0 from Nat.div_eq_of_lt hb] at this

/-! ### Powers of 2 -/
theorem ex_lt (h : Ok F) : ∀ n, ex F n < F.s
  | 0 => by have := s_ge4 h; show 1 < F.s; omega
  | n + 1 => step_lt h (ex_lt h n)
theorem ex_pos (h : Ok F) : ∀ n, 0 < ex F n
  | 0 => Nat.one_pos
  | n + 1 => Nat.pos_of_ne_zero (step_ne h (ex_pos h n))
theorem walkTo_ex (F : Fd) : ∀ (n k : Nat), walkTo F n (ex F k) = ex F (k + n)
  | 0, k => rfl
  | n + 1, k => by
    unfold walkTo
    have := walkTo_ex F n (k + 1)
    rw [show k + 1 + n = k + (n + 1) from by omega] at this
    exact this
theorem noOne_ex : ∀ (n k : Nat), noOne F n (ex F k) = true → ∀ i, k < i → i ≤ k + n → ex F i ≠ 1
  | 0, k, _, i, h1, h2 => by omega
  | n + 1, k, h, i, h1, h2 => by
    simp only [noOne, Bool.and_eq_true, bne_iff_ne, ne_eq] at h
    by_cases hi : i = k + 1
    · subst hi; exact h.1
    · exact noOne_ex n (k + 1) h.2 i (by omega) (by omega)
theorem ex_one (h : Ok F) : ex F 1 = 2 := by
  have := s_ge4 h
  show step F 1 = 2
  unfold step; rw [if_neg (by omega)]
theorem ex_period (h : Ok F) : ex F (F.s - 1) = 1 := by
  have h1 := walkTo_ex F (F.s - 2) 1
  have := s_ge4 h
  rw [ex_one h, h.last, show 1 + (F.s - 2) = F.s - 1 from by omega] at h1
  exact h1.symm
theorem ex_ne_one (h : Ok F) {i : Nat} (h0 : 0 < i) (hi : i < F.s - 1) : ex F i ≠ 1 := by
  have h4 := s_ge4 h
  by_cases h1 : i = 1
  · subst h1; rw [ex_one h]; decide
  · exact noOne_ex (F := F) (F.s - 3) 1 (by rw [ex_one h]; exact h.none_) i (by omega) (by omega)
theorem mul_ex (h : Ok F) (j : Nat) : ∀ i, mul F (ex F i) (ex F j) = ex F (i + j)
  | 0 => by rw [Nat.zero_add]; exact one_mul h (ex_lt h j)
  | i + 1 => by
    show mul F (step F (ex F i)) (ex F j) = _
    rw [mul_step h _ (ex_lt h i), mul_ex h j i, show i + 1 + j = (i + j) + 1 from by omega]
    rfl
theorem ex_add_period (h : Ok F) (i : Nat) : ex F (i + (F.s - 1)) = ex F i := by
  rw [← mul_ex h, ex_period h]
  have h1 : mul F (ex F i) 1 = mul F (ex F i) (ex F 0) := rfl
  rw [h1, mul_ex h, Nat.add_zero]
theorem ex_mod (h : Ok F) (i : Nat) : ex F (i % (F.s - 1)) = ex F i := by
  have h4 := s_ge4 h
  induction i using Nat.strongRecOn with
  | _ i ih =>
    by_cases hi : i < F.s - 1
    · rw [Nat.mod_eq_of_lt hi]
    · rw [Nat.mod_eq_sub_mod (by omega), ih (i - (F.s - 1)) (by omega), ← ex_add_period h]
      congr 1; omega
theorem ex_cancel (h : Ok F) {i k : Nat} (he : ex F (i + k) = ex F i) : ex F k = 1 := by
  have h4 := s_ge4 h
  have h5 : ex F (i * (F.s - 1)) = 1 := by
    rw [← ex_mod h, Nat.mul_mod_left]; rfl
  have h6 : i ≤ i * (F.s - 1) := Nat.le_mul_of_pos_right _ (by omega)
  have h1 : mul F (ex F (i * (F.s - 1) - i)) (ex F (i + k)) = mul F (ex F (i * (F.s - 1) - i)) (ex F i) := by rw [he]
  rw [mul_ex h, mul_ex h, show i * (F.s - 1) - i + (i + k) = k + i * (F.s - 1) from by omega, show i * (F.s - 1) - i + i = i * (F.s - 1) from by omega, h5,
    ← mul_ex h, h5] at h1
  have h7 : mul F (ex F k) 1 = mul F (ex F k) (ex F 0) := rfl
  rw [h7, mul_ex h, Nat.add_zero] at h1
  exact h1
theorem ex_inj (h : Ok F) {i j : Nat} (hi : i < F.s - 1) (hj : j < F.s - 1) (he : ex F i = ex F j) : i = j := by
  rcases Nat.lt_trichotomy i j with hlt | heq | hlt
  · exact absurd (ex_cancel h (i := i) (k := j - i) (by rw [show i + (j - i) = j from by omega, he])) (ex_ne_one h (by omega) (by omega))
  · exact heq
  · exact absurd (ex_cancel h (i := j) (k := i - j) (by rw [show j + (i - j) = i from by omega, he])) (ex_ne_one h (by omega) (by omega))

/-- An injective map of the numbers below n into themselves meets each. -/
theorem meets_all : ∀ (n : Nat) (f : Nat → Nat), (∀ i, i < n → f i < n) → (∀ i j, i < n → j < n → f i = f j → i = j) → ∀ y, y < n → ∃ i, i < n ∧ f i = y
  | 0, _, _, _, y, hy => by omega
  | n + 1, f, hf, hinj, y, hy => by
    by_cases hy' : y = f n
    · exact ⟨n, by omega, hy'.symm⟩
    · -- exchange the values f n and n
      let g : Nat → Nat := fun i => if f i = n then f n else f i
      have hg : ∀ i, i < n → g i < n := by
        intro i hi
        show (if f i = n then f n else f i) < n
        split
        · rename_i h1
          have h2 := hf n (by omega)
          have h3 : f n ≠ n := fun h4 => by have := hinj i n (by omega) (by omega) (by omega); omega
          omega
        · have := hf i (by omega); omega
      have hgi : ∀ i j, i < n → j < n → g i = g j → i = j := by
        intro i j hi hj he
        have he' : (if f i = n then f n else f i) = (if f j = n then f n else f j) := he
        split at he' <;> split at he'
        · rename_i h1 h2; exact hinj i j (by omega) (by omega) (by omega)
        · have := hinj n j (by omega) (by omega) he'; omega
        · have := hinj i n (by omega) (by omega) he'; omega
        · exact hinj i j (by omega) (by omega) he'
      by_cases hn : y = n
      · -- n is met by f at some i below n: f restricted would else be into n
        by_cases hall : ∃ i, i < n ∧ f i = n
        · obtain ⟨i, h1, h2⟩ := hall; exact ⟨i, by omega, by omega⟩
        · exfalso
          have hlt : ∀ i, i < n → f i < n := fun i hi => by
            have := hf i (by omega)
            have h2 : f i ≠ n := fun h3 => hall ⟨i, hi, h3⟩
            omega
          have hfn : f n < n := by have := hf n (by omega); omega
          obtain ⟨i, h1, h2⟩ := meets_all n f hlt (fun i j hi hj => hinj i j (by omega) (by omega)) (f n) hfn
          have := hinj i n (by omega) (by omega) h2
          omega
      · obtain ⟨i, h1, h2⟩ := meets_all n g hg hgi y (by omega)
        have h3 : (if f i = n then f n else f i) = y := h2
        split at h3
        · exact absurd h3.symm hy'
        · exact ⟨i, by omega, h3⟩

theorem ex_onto (h : Ok F) {a : Nat} (h0 : 0 < a) (ha : a < F.s) : ∃ i, i < F.s - 1 ∧ ex F i = a := by
  have h4 := s_ge4 h
  obtain ⟨i, h1, h2⟩ := meets_all (F.s - 1) (fun i => ex F i - 1) (fun i _ => by have := ex_lt h i; have := ex_pos h i; show ex F i - 1 < _; omega)
    (fun i j hi hj he => ex_inj h hi hj (by have := ex_pos h i; have := ex_pos h j; have he' : ex F i - 1 = ex F j - 1 := he; omega)) (a - 1) (by omega)
  have h2' : ex F i - 1 = a - 1 := h2
  exact ⟨i, h1, by have := ex_pos h i; omega⟩

/-- The logarithm: the exponent below s - 1. -/
def lg (F : Fd) (a : Nat) : Nat := ((List.range (F.s - 1)).find? fun i => ex F i == a).getD 0
theorem lg_spec (h : Ok F) {a : Nat} (h0 : 0 < a) (ha : a < F.s) : lg F a < F.s - 1 ∧ ex F (lg F a) = a := by
  obtain ⟨i, h1, h2⟩ := ex_onto h h0 ha
  unfold lg
  cases hf : (List.range (F.s - 1)).find? fun i => ex F i == a with
  | none =>
    have := List.find?_eq_none.1 hf i (List.mem_range.2 h1)
    simp [h2] at this
  | some k =>
    have hk := List.find?_some hf
    have hm := List.mem_of_find?_eq_some hf
    exact ⟨List.mem_range.1 hm, by simpa using hk⟩
theorem lg_ex (h : Ok F) {i : Nat} (hi : i < F.s - 1) : lg F (ex F i) = i := by
  have := lg_spec h (ex_pos h i) (ex_lt h i)
  exact ex_inj h this.1 hi this.2

/-! ### The laws of the field -/
theorem mul_lg (h : Ok F) {a b : Nat} (a0 : 0 < a) (ha : a < F.s) (b0 : 0 < b) (hb : b < F.s) : mul F a b = ex F ((lg F a + lg F b) % (F.s - 1)) := by
  obtain ⟨_, e1⟩ := lg_spec h a0 ha
  obtain ⟨_, e2⟩ := lg_spec h b0 hb
  rw [ex_mod h, ← mul_ex h, e1, e2]
theorem mul_comm (h : Ok F) {a b : Nat} (ha : a < F.s) (hb : b < F.s) : mul F a b = mul F b a := by
  rcases Nat.eq_zero_or_pos a with rfl | a0
  · rw [zero_mul, mul_zero]
  · rcases Nat.eq_zero_or_pos b with rfl | b0
    · rw [zero_mul, mul_zero]
    · rw [mul_lg h a0 ha b0 hb, mul_lg h b0 hb a0 ha, Nat.add_comm]
theorem mul_pos (h : Ok F) {a b : Nat} (a0 : 0 < a) (ha : a < F.s) (b0 : 0 < b) (hb : b < F.s) : 0 < mul F a b := by
  rw [mul_lg h a0 ha b0 hb]; exact ex_pos h _
theorem mul_assoc (h : Ok F) {a b c : Nat} (ha : a < F.s) (hb : b < F.s) (hc : c < F.s) : mul F (mul F a b) c = mul F a (mul F b c) := by
  rcases Nat.eq_zero_or_pos a with rfl | a0
  · simp only [zero_mul]
  · rcases Nat.eq_zero_or_pos b with rfl | b0
    · simp only [zero_mul, mul_zero]
    · rcases Nat.eq_zero_or_pos c with rfl | c0
      · simp only [mul_zero]
      · obtain ⟨_, e1⟩ := lg_spec h a0 ha
        obtain ⟨_, e2⟩ := lg_spec h b0 hb
        obtain ⟨_, e3⟩ := lg_spec h c0 hc
        rw [← e1, ← e2, ← e3, mul_ex h, mul_ex h, mul_ex h, mul_ex h, Nat.add_assoc]
theorem mul_one (h : Ok F) {a : Nat} (ha : a < F.s) : mul F a 1 = a := by
  rw [mul_comm h ha (by have := s_ge4 h; omega), one_mul h ha]
theorem mulLoop_xor (h : Ok F) (b : Nat) {a a' : Nat} (ha : a < F.s) (ha' : a' < F.s) : ∀ (j out out' : Nat), out < F.s → out' < F.s →
    mulLoop F (a ^^^ a') b j (out ^^^ out') = mulLoop F a b j out ^^^ mulLoop F a' b j out'
  | 0, _, _, _, _ => rfl
  | j + 1, out, out', ho, ho' => by
    unfold mulLoop
    rw [step_xor h ho ho']
    have h1 := step_lt h ho
    have h2 := step_lt h ho'
    by_cases hb : b / 2 ^ j % 2 = 1
    · simp only [hb, if_true]
      rw [show step F out ^^^ step F out' ^^^ (a ^^^ a') = (step F out ^^^ a) ^^^ (step F out' ^^^ a') from by
        apply Nat.eq_of_testBit_eq; intro i; simp only [Nat.testBit_xor]
        cases (step F out).testBit i <;> cases (step F out').testBit i <;> cases a.testBit i <;> cases a'.testBit i <;> rfl]
      exact mulLoop_xor h b ha ha' j _ _ (Nat.xor_lt_two_pow h1 ha) (Nat.xor_lt_two_pow h2 ha')
    · simp only [hb, if_false]
      exact mulLoop_xor h b ha ha' j _ _ h1 h2
theorem xor_mul (h : Ok F) {a a' : Nat} (b : Nat) (ha : a < F.s) (ha' : a' < F.s) : mul F (a ^^^ a') b = mul F a b ^^^ mul F a' b := by
  have := mulLoop_xor h b ha ha' F.m 0 0 (s_pos F) (s_pos F)
  rw [Nat.xor_self] at this
  exact this
theorem mul_xor (h : Ok F) {a b b' : Nat} (ha : a < F.s) (hb : b < F.s) (hb' : b' < F.s) : mul F a (b ^^^ b') = mul F a b ^^^ mul F a b' := by
  rw [mul_comm h ha (Nat.xor_lt_two_pow hb hb'), xor_mul h a hb hb', mul_comm h hb ha, mul_comm h hb' ha]
/-- The inverse of an element that is not 0. -/
def inv (F : Fd) (a : Nat) : Nat := ex F (F.s - 1 - lg F a)
theorem inv_lt (h : Ok F) (a : Nat) : inv F a < F.s := ex_lt h _
theorem inv_pos (h : Ok F) (a : Nat) : 0 < inv F a := ex_pos h _
theorem mul_inv (h : Ok F) {a : Nat} (a0 : 0 < a) (ha : a < F.s) : mul F a (inv F a) = 1 := by
  obtain ⟨h1, e1⟩ := lg_spec h a0 ha
  unfold inv
  have : mul F a (ex F (F.s - 1 - lg F a)) = mul F (ex F (lg F a)) (ex F (F.s - 1 - lg F a)) := by rw [e1]
  rw [this, mul_ex h, show lg F a + (F.s - 1 - lg F a) = F.s - 1 from by omega, ex_period h]
theorem inv_uniq (h : Ok F) {a b : Nat} (a0 : 0 < a) (ha : a < F.s) (hb : b < F.s) (he : mul F a b = 1) : b = inv F a := by
  have h1 : mul F (inv F a) (mul F a b) = mul F (inv F a) 1 := by rw [he]
  rw [← mul_assoc h (inv_lt h a) ha hb, mul_comm h (inv_lt h a) ha, mul_inv h a0 ha, one_mul h hb, mul_one h (inv_lt h a)] at h1
  exact h1
end
end Go.Proofs.Ytibdeekgcbmofaa.Gf
