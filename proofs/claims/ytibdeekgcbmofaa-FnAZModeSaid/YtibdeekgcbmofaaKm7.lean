/-
  PLAIN: the decoder's answer as a function of the words, and that it mends as many errors as it is meant for.
-/
import Derived.Test.YtibdeekgcbmofaaKm6
namespace Go.Proofs.Ytibdeekgcbmofaa.Gf
open Go.Proofs.Ytibdeekgcbmofaa

/-! ### The decoder -/
def synL (F : Fd) (R : Nat) (xs : List Nat) : List Nat := (List.range R).map fun i => ev F (ex F (i + F.b)) xs
def eu0 (F : Fd) (R : Nat) (xs : List Nat) : Eu := euc F R R ⟨1 :: List.replicate R 0, tidy (synL F R xs).reverse, [0], [1]⟩
def locs (F : Fd) (sg : List Nat) : Option (List Nat) :=
  if sg.length = 2 then some [sg.getD 0 0]
  else if (((List.range' 1 (F.s - 1)).filter fun i => ev F i sg == 0).take (sg.length - 1)).length = sg.length - 1 then some ((((List.range' 1 (F.s - 1)).filter fun i => ev F i sg == 0).take (sg.length - 1)).map (inv F)) else none
def denF (F : Fd) (X : Nat) : List Nat → Nat → Nat
  | [], d => d
  | Z :: Zs, d => denF F X Zs (if Z = X then d else mul F d (mul F Z (inv F X) ^^^ 1))
def mag (F : Fd) (om L : List Nat) (X : Nat) : Nat :=
  if F.b = 0 then mul F (ev F (inv F X) om) (inv F (denF F X L 1)) else mul F (mul F (ev F (inv F X) om) (inv F (denF F X L 1))) (inv F X)
def fixW (F : Fd) (n : Nat) : List (Nat × Nat) → List Nat → Option (List Nat)
  | [], ws => some ws
  | (X, Y) :: r, ws => if n ≤ lg F X then none else fixW F n r (ws.set (n - 1 - lg F X) (ws.getD (n - 1 - lg F X) 0 ^^^ Y))
def t0 (s : Eu) : Nat := s.t.getD (s.t.length - 1) 0
def sigO (F : Fd) (s : Eu) : List Nat := scaled F s.t (inv F (t0 s))
def omO (F : Fd) (s : Eu) : List Nat := scaled F s.r (inv F (t0 s))
def rsDec (F : Fd) (R : Nat) (xs : List Nat) : Option (List Nat) :=
  if (synL F R xs).all (· == 0) = true then some xs
  else if t0 (eu0 F R xs) = 0 then none
  else match locs F (sigO F (eu0 F R xs)) with
    | none => none
    | some L => fixW F xs.length (L.map fun X => (X, mag F (omO F (eu0 F R xs)) L X)) xs

/-! ### Errors by their places -/
def esOf (F : Fd) : List Nat → List (Nat × Nat)
  | [] => []
  | y :: r => if y = 0 then esOf F r else (ex F r.length, y) :: esOf F r
def sumE (F : Fd) : List (Nat × Nat) → Nat → Nat
  | [], _ => 0
  | (X, Y) :: es, q => mul F Y (pk F X q) ^^^ sumE F es q
/-- What is added at the power p. -/
def sumAt (F : Fd) (p : Nat) : List (Nat × Nat) → Nat
  | [] => 0
  | (X, Y) :: es => (if lg F X = p then Y else 0) ^^^ sumAt F p es
theorem pw_pk (F : Fd) (a : Nat) : ∀ n, pw F a n = pk F a n
  | 0 => rfl
  | n + 1 => by show mul F a (pw F a n) = mul F a (pk F a n); rw [pw_pk F a n]
section
variable {F : Fd} (h : Ok F)
include h
theorem pk_ex (p : Nat) : ∀ q, pk F (ex F p) q = ex F (p * q)
  | 0 => rfl
  | q + 1 => by
    show mul F (ex F p) (pk F (ex F p) q) = _
    rw [pk_ex p q, mul_ex h, Nat.mul_succ, Nat.add_comm]
theorem pk_add {X : Nat} (hX : X < F.s) (b : Nat) : ∀ n, mul F (pk F X b) (pk F X n) = pk F X (b + n)
  | 0 => mul_one h (pk_lt h hX b)
  | n + 1 => by
    have ih := pk_add hX b n
    have h1 := pk_lt h hX b
    have h2 := pk_lt h hX n
    show mul F (pk F X b) (mul F X (pk F X n)) = mul F X (pk F X (b + n))
    rw [← mul_assoc h h1 hX h2, mul_comm h h1 hX, mul_assoc h hX h1 h2, ih]
theorem SI_sum (b n : Nat) : ∀ {es : List (Nat × Nat)}, Errs F es → SI F b es n = sumE F es (b + n)
  | [], _ => rfl
  | (X, Y) :: es, he => by
    have hX := (he.x0 _ (List.mem_cons_self ..)).2
    have hY := (he.y0 _ (List.mem_cons_self ..)).2
    show mul F (mul F Y (pk F X b)) (pk F X n) ^^^ SI F b es n = mul F Y (pk F X (b + n)) ^^^ sumE F es (b + n)
    rw [SI_sum b n he.tail, mul_assoc h hY (pk_lt h hX b) (pk_lt h hX n), pk_add h hX]
theorem ev_sum (q : Nat) : ∀ (e : List Nat), (∀ x ∈ e, x < F.s) → ev F (ex F q) e = sumE F (esOf F e) q
  | [], _ => rfl
  | y :: r, he => by
    have hy := he y (List.mem_cons_self ..)
    have hr : ∀ x ∈ r, x < F.s := fun x hx => he x (List.mem_cons_of_mem _ hx)
    rw [ev_cons h (ex_lt h q) y r hy hr, ev_sum q r hr]
    by_cases h0 : y = 0
    · rw [esOf, if_pos h0, h0, zero_mul, Nat.zero_xor]
    · rw [esOf, if_neg h0]
      show _ = mul F y (pk F (ex F r.length) q) ^^^ sumE F (esOf F r) q
      rw [pw_pk, pk_ex h, pk_ex h, Nat.mul_comm q]
theorem esOf_lg : ∀ (e : List Nat), e.length ≤ F.s - 1 → ∀ x ∈ esOf F e, ∃ k, k < e.length ∧ x.1 = ex F k ∧ lg F x.1 = k
  | [], _, x, hx => by cases hx
  | y :: r, hl, x, hx => by
    rw [List.length_cons] at hl
    have ih := esOf_lg r (by omega)
    unfold esOf at hx
    split at hx
    · obtain ⟨k, h1, h2⟩ := ih x hx
      exact ⟨k, by rw [List.length_cons]; omega, h2⟩
    · rcases List.mem_cons.1 hx with rfl | hx
      · exact ⟨r.length, by rw [List.length_cons]; omega, rfl, lg_ex h (by omega)⟩
      · obtain ⟨k, h1, h2⟩ := ih x hx
        exact ⟨k, by rw [List.length_cons]; omega, h2⟩
theorem esOf_errs : ∀ (e : List Nat), e.length ≤ F.s - 1 → (∀ x ∈ e, x < F.s) → Errs F (esOf F e)
  | [], _, _ => ⟨fun x hx => (by cases hx), fun x hx => (by cases hx), List.nodup_nil⟩
  | y :: r, hl, he => by
    rw [List.length_cons] at hl
    have ih := esOf_errs r (by omega) (fun x hx => he x (List.mem_cons_of_mem _ hx))
    have hy := he y (List.mem_cons_self ..)
    unfold esOf
    split
    · exact ih
    · rename_i h0
      refine ⟨fun x hx => ?_, fun x hx => ?_, ?_⟩
      · rcases List.mem_cons.1 hx with rfl | hx
        · exact ⟨ex_pos h _, ex_lt h _⟩
        · exact ih.x0 x hx
      · rcases List.mem_cons.1 hx with rfl | hx
        · exact ⟨Nat.pos_of_ne_zero h0, hy⟩
        · exact ih.y0 x hx
      · show (ex F r.length :: lX (esOf F r)).Nodup
        refine List.nodup_cons.2 ⟨fun hm => ?_, ih.nd⟩
        obtain ⟨x, hx, hxe⟩ := List.mem_map.1 hm
        obtain ⟨k, h1, h2, _⟩ := esOf_lg h r (by omega) x hx
        rw [h2] at hxe
        have := ex_inj h (show k < F.s - 1 by omega) (show r.length < F.s - 1 by omega) hxe
        omega
omit h in
theorem sumAt_out (p : Nat) : ∀ (es : List (Nat × Nat)), (∀ x ∈ es, lg F x.1 ≠ p) → sumAt F p es = 0
  | [], _ => rfl
  | (X, Y) :: es, hx => by
    show (if lg F X = p then Y else 0) ^^^ sumAt F p es = 0
    rw [if_neg (hx (X, Y) (List.mem_cons_self ..)), sumAt_out p es (fun x hm => hx x (List.mem_cons_of_mem _ hm))]; rfl
theorem sumAt_es (p : Nat) : ∀ (e : List Nat), e.length ≤ F.s - 1 → sumAt F p (esOf F e) = co e.reverse p
  | [], _ => rfl
  | y :: r, hl => by
    rw [List.length_cons] at hl
    have ih := sumAt_es p r (by omega)
    have hout : ∀ q, r.length ≤ q → sumAt F q (esOf F r) = 0 := fun q hq => sumAt_out q _ (fun x hx => by
      obtain ⟨k, h1, _, h3⟩ := esOf_lg h r (by omega) x hx
      omega)
    rw [rev_getD] at ih ⊢
    rw [List.length_cons]
    have hes : sumAt F p (esOf F (y :: r)) = (if r.length = p then y else 0) ^^^ sumAt F p (esOf F r) := by
      by_cases h0 : y = 0
      · rw [esOf, if_pos h0, h0]
        by_cases hc : r.length = p
        · rw [if_pos hc, Nat.zero_xor]
        · rw [if_neg hc, Nat.zero_xor]
      · rw [esOf, if_neg h0]
        show (if lg F (ex F r.length) = p then y else 0) ^^^ _ = _
        rw [lg_ex h (by omega)]
    rw [hes]
    by_cases hp : p < r.length
    · rw [if_pos hp] at ih
      rw [if_neg (show ¬ r.length = p by omega), ih, Nat.zero_xor, if_pos (show p < r.length + 1 by omega), show r.length + 1 - 1 - p = (r.length - 1 - p) + 1 by omega, List.getD_cons_succ]
    · rw [hout p (by omega), Nat.xor_zero]
      by_cases hp2 : r.length = p
      · rw [if_pos hp2, if_pos (by omega), show r.length + 1 - 1 - p = 0 by omega, List.getD_cons_zero]
      · rw [if_neg hp2, if_neg (by omega)]
omit h in
theorem sumAt_perm {p : Nat} {a b : List (Nat × Nat)} (hp : a.Perm b) : sumAt F p a = sumAt F p b := by
  induction hp with
  | nil => rfl
  | cons x _ ih =>
    obtain ⟨X, Y⟩ := x
    show _ ^^^ _ = _ ^^^ _
    rw [ih]
  | swap x y l =>
    obtain ⟨X, Y⟩ := x
    obtain ⟨X', Y'⟩ := y
    show _ ^^^ (_ ^^^ _) = _ ^^^ (_ ^^^ _)
    rw [← Nat.xor_assoc, ← Nat.xor_assoc]
    congr 1
    exact Nat.xor_comm _ _
  | trans _ _ h1 h2 => exact h1.trans h2
omit h in
/-- What the words are behind the corrections. -/
theorem fixW_ok (n : Nat) : ∀ (P : List (Nat × Nat)) (ws : List Nat), ws.length = n → (∀ x ∈ P, lg F x.1 < n) → ∃ ws', fixW F n P ws = some ws' ∧ ws'.length = n ∧ ∀ j, j < n → ws'.getD j 0 = ws.getD j 0 ^^^ sumAt F (n - 1 - j) P
  | [], ws, hl, _ => ⟨ws, rfl, hl, fun j _ => (Nat.xor_zero _).symm⟩
  | (X, Y) :: P, ws, hl, hx => by
    have hX : lg F X < n := hx (X, Y) (List.mem_cons_self ..)
    obtain ⟨ws', h1, h2, h3⟩ := fixW_ok n P (ws.set (n - 1 - lg F X) (ws.getD (n - 1 - lg F X) 0 ^^^ Y)) (by simpa using hl) (fun x hm => hx x (List.mem_cons_of_mem _ hm))
    refine ⟨ws', ?_, h2, fun j hj => ?_⟩
    · unfold fixW
      rw [if_neg (by omega)]
      exact h1
    · rw [h3 j hj]
      show _ = _ ^^^ ((if lg F X = n - 1 - j then Y else 0) ^^^ sumAt F (n - 1 - j) P)
      rw [← Nat.xor_assoc]
      congr 1
      by_cases hjx : n - 1 - lg F X = j
      · rw [if_pos (by omega), hjx, List.getD, List.getElem?_set_self (by omega)]; rfl
      · rw [if_neg (by omega), Nat.xor_zero, List.getD, List.getElem?_set_ne hjx]; rfl
omit h in
theorem perm_of : ∀ (a b : List Nat), a.Nodup → b.Nodup → (∀ x, x ∈ a ↔ x ∈ b) → a.Perm b
  | [], b, _, _, hm => by
    cases b with
    | nil => exact List.Perm.nil
    | cons x r => exact absurd ((hm x).2 (List.mem_cons_self ..)) (by simp)
  | x :: a, b, ha, hb, hm => by
    have hxb : x ∈ b := (hm x).1 (List.mem_cons_self ..)
    have h1 := List.perm_cons_erase hxb
    have hb2 : (x :: b.erase x).Nodup := h1.nodup_iff.1 hb
    have hna := List.nodup_cons.1 ha
    have hnb := List.nodup_cons.1 hb2
    have ih := perm_of a (b.erase x) hna.2 hnb.2 (fun y => by
      constructor
      · intro hy
        have hyb := (hm y).1 (List.mem_cons_of_mem _ hy)
        rcases List.mem_cons.1 (h1.mem_iff.1 hyb) with rfl | h2
        · exact absurd hy hna.1
        · exact h2
      · intro hy
        have hyb : y ∈ b := h1.mem_iff.2 (List.mem_cons_of_mem _ hy)
        rcases List.mem_cons.1 ((hm y).2 hyb) with rfl | h2
        · exact absurd hy hnb.1
        · exact h2)
    exact (List.Perm.cons x ih).trans h1.symm
end
end Go.Proofs.Ytibdeekgcbmofaa.Gf
