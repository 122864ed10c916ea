/-
  PLAIN: sums and rests of polynomials (lists of coefficients, the highest first); a register that divides word by word; that it is linear, and what values have to do with it. PLAIN: the generator: a product of (unknown - root); that its first coefficient is 1 and that it is 0 at its roots; words of a code.
-/
import Derived.Test.YtopfdmmimgnciaaGreatDoorV08
import Derived.Test.YtopfdmmimgnciaaGreatDoorV07
namespace Go.Proofs.YtopfdmmimgnciaaGreatDoor.Gf
open Go.Proofs.YtopfdmmimgnciaaGreatDoor

/-- The sum of two lists of one length, as far as the first one goes. -/
def xo : List Nat → List Nat → List Nat
  | x :: xs, y :: ys => (x ^^^ y) :: xo xs ys
  | xs, [] => xs
  | [], _ => []
/-- The sum of two polynomials: they end together. -/
def pad (n : Nat) (xs : List Nat) : List Nat := List.replicate (n - xs.length) 0 ++ xs
def padd (xs ys : List Nat) : List Nat := xo (pad (max xs.length ys.length) xs) (pad (max xs.length ys.length) ys)

theorem xo_len : ∀ (xs ys : List Nat), (xo xs ys).length = xs.length
  | [], [] => rfl
  | [], _ :: _ => rfl
  | _ :: _, [] => rfl
  | x :: xs, y :: ys => by simp [xo, xo_len xs ys]
theorem xo_nil (xs : List Nat) : xo xs [] = xs := by cases xs <;> rfl
theorem xo_zero : ∀ (xs : List Nat) (n : Nat), xo xs (List.replicate n 0) = xs
  | [], n => by cases n <;> rfl
  | x :: xs, 0 => rfl
  | x :: xs, n + 1 => by rw [List.replicate_succ, xo, xo_zero xs n, Nat.xor_zero]
theorem zero_xo : ∀ (n : Nat) (ys : List Nat), ys.length = n → xo (List.replicate n 0) ys = ys
  | 0, [], _ => rfl
  | n + 1, y :: ys, h => by rw [List.replicate_succ, xo, zero_xo n ys (by simpa using h), Nat.zero_xor]
theorem xo_comm : ∀ (xs ys : List Nat), xs.length = ys.length → xo xs ys = xo ys xs
  | [], [], _ => rfl
  | x :: xs, y :: ys, h => by rw [xo, xo, xo_comm xs ys (by simpa using h), Nat.xor_comm]
theorem xo_lt {F : Fd} : ∀ (xs ys : List Nat), (∀ x ∈ xs, x < F.s) → (∀ y ∈ ys, y < F.s) → ∀ z ∈ xo xs ys, z < F.s
  | [], [], _, _, z, hz => by cases hz
  | [], _ :: _, _, _, z, hz => by cases hz
  | x :: xs, [], hx, _, z, hz => hx z hz
  | x :: xs, y :: ys, hx, hy, z, hz => by
    rcases List.mem_cons.1 hz with rfl | hz
    · exact Nat.xor_lt_two_pow (hx x (List.mem_cons_self ..)) (hy y (List.mem_cons_self ..))
    · exact xo_lt xs ys (fun a ha => hx a (List.mem_cons_of_mem _ ha)) (fun a ha => hy a (List.mem_cons_of_mem _ ha)) z hz
theorem xo_at : ∀ (xs ys : List Nat) (i : Nat), i < xs.length → (xo xs ys).getD i 0 = xs.getD i 0 ^^^ ys.getD i 0
  | x :: xs, [], i, _ => by simp [xo]
  | x :: xs, y :: ys, 0, _ => by simp [xo]
  | x :: xs, y :: ys, i + 1, h => by
    have := xo_at xs ys i (by simpa using h)
    simpa [xo] using this
theorem xo_append : ∀ (a b c d : List Nat), a.length = c.length → xo (a ++ b) (c ++ d) = xo a c ++ xo b d
  | [], b, [], d, _ => by simp [xo]
  | x :: a, b, y :: c, d, h => by simp [xo, xo_append a b c d (by simpa using h)]

theorem pad_len (n : Nat) (xs : List Nat) (h : xs.length ≤ n) : (pad n xs).length = n := by simp [pad]; omega
theorem pad_same (xs : List Nat) (n : Nat) (h : n ≤ xs.length) : pad n xs = xs := by
  unfold pad; rw [Nat.sub_eq_zero_of_le h]; rfl
theorem pad_lt {F : Fd} {n : Nat} {xs : List Nat} (h : ∀ x ∈ xs, x < F.s) : ∀ x ∈ pad n xs, x < F.s := by
  intro x hx
  rcases List.mem_append.1 hx with hx | hx
  · rw [List.eq_of_mem_replicate hx]; exact s_pos F
  · exact h x hx
theorem padd_len (xs ys : List Nat) : (padd xs ys).length = max xs.length ys.length := by
  unfold padd; rw [xo_len, pad_len _ _ (by omega)]
theorem padd_lt {F : Fd} {xs ys : List Nat} (hx : ∀ x ∈ xs, x < F.s) (hy : ∀ y ∈ ys, y < F.s) : ∀ z ∈ padd xs ys, z < F.s :=
  xo_lt _ _ (pad_lt hx) (pad_lt hy)
theorem padd_same (xs ys : List Nat) (h : xs.length = ys.length) : padd xs ys = xo xs ys := by
  unfold padd; rw [pad_same _ _ (by omega), pad_same _ _ (by omega)]
theorem zero_padd (ys : List Nat) (h : 0 < ys.length) : padd [0] ys = ys := by
  have e : pad (max [0].length ys.length) [0] = List.replicate ys.length 0 := by
    unfold pad
    have h1 : max [0].length ys.length = ys.length := by simp; omega
    rw [h1]
    show List.replicate (ys.length - 1) 0 ++ List.replicate 1 0 = _
    rw [List.replicate_append_replicate]; congr 1; omega
  unfold padd
  rw [e, pad_same _ _ (by simp; omega), zero_xo _ _ rfl]
theorem padd_zero (xs : List Nat) (h : 0 < xs.length) : padd xs [0] = xs := by
  have e : pad (max xs.length [0].length) [0] = List.replicate xs.length 0 := by
    unfold pad
    have h1 : max xs.length [0].length = xs.length := by simp; omega
    rw [h1]
    show List.replicate (xs.length - 1) 0 ++ List.replicate 1 0 = _
    rw [List.replicate_append_replicate]; congr 1; omega
  unfold padd
  rw [e, pad_same _ _ (by simp; omega), xo_zero]

/-! ### The rest of a division, as the package and the reference make it -/
def scaled (F : Fd) (xs : List Nat) (c : Nat) : List Nat := xs.map fun x => mul F x c
/-- The coefficient with which the divisor is taken away. -/
def lead (F : Fd) (b r : List Nat) : Nat := mul F (r.getD 0 0) (inv F (b.getD 0 0))
def term (F : Fd) (b r : List Nat) : List Nat := tidy (scaled F b (lead F b r) ++ List.replicate (r.length - b.length) 0)
def restStep (F : Fd) (b r : List Nat) : List Nat := tidy (padd r (term F b r))
def rest (F : Fd) (b : List Nat) : Nat → List Nat → List Nat
  | 0, r => r
  | n + 1, r => if b.length ≤ r.length ∧ r ≠ [0] then rest F b n (restStep F b r) else r
theorem scaled_len (F : Fd) (xs : List Nat) (c : Nat) : (scaled F xs c).length = xs.length := by simp [scaled]
theorem scaled_lt {F : Fd} (h : Ok F) {xs : List Nat} (c : Nat) (hx : ∀ x ∈ xs, x < F.s) : ∀ x ∈ scaled F xs c, x < F.s := by
  intro x hx'
  obtain ⟨y, hy, rfl⟩ := List.mem_map.1 hx'
  exact mul_lt h c (hx y hy)
theorem lead_lt {F : Fd} (h : Ok F) (b : List Nat) {r : List Nat} (hr : ∀ x ∈ r, x < F.s) (hn : 0 < r.length) : lead F b r < F.s := by
  unfold lead
  rw [getD_lt _ _ _ hn]
  exact mul_lt h _ (hr _ (List.getElem_mem hn))
theorem tidy_lt {F : Fd} {xs : List Nat} (h : ∀ x ∈ xs, x < F.s) : ∀ x ∈ tidy xs, x < F.s := fun x hx => h x (tidy_mem xs x hx)
theorem rep_lt {F : Fd} (n : Nat) : ∀ x ∈ List.replicate n 0, x < F.s := fun x hx => by rw [List.eq_of_mem_replicate hx]; exact s_pos F
theorem app_lt {F : Fd} {xs ys : List Nat} (hx : ∀ x ∈ xs, x < F.s) (hy : ∀ x ∈ ys, x < F.s) : ∀ x ∈ xs ++ ys, x < F.s := fun z hz => by
  rcases List.mem_append.1 hz with hz | hz
  · exact hx z hz
  · exact hy z hz
theorem term_lt {F : Fd} (h : Ok F) {b : List Nat} (r : List Nat) (hb : ∀ x ∈ b, x < F.s) : ∀ x ∈ term F b r, x < F.s :=
  tidy_lt (app_lt (scaled_lt h _ hb) (rep_lt _))
theorem restStep_lt {F : Fd} (h : Ok F) {b r : List Nat} (hb : ∀ x ∈ b, x < F.s) (hr : ∀ x ∈ r, x < F.s) : ∀ x ∈ restStep F b r, x < F.s :=
  tidy_lt (padd_lt hr (term_lt h r hb))
theorem scaled_zero (F : Fd) (xs : List Nat) : scaled F xs 0 = List.replicate xs.length 0 := by
  unfold scaled
  rw [List.eq_replicate_iff]
  exact ⟨by simp, fun x hx => by obtain ⟨y, _, rfl⟩ := List.mem_map.1 hx; exact mul_zero F y⟩
theorem scaled_one {F : Fd} (h : Ok F) {xs : List Nat} (hx : ∀ x ∈ xs, x < F.s) : scaled F xs 1 = xs := by
  unfold scaled
  conv => rhs; rw [← List.map_id xs]
  exact List.map_congr_left fun x hx' => mul_one h (hx x hx')
/-- A tidy list times what is not 0 is tidy, but for zero itself. -/
theorem scaled_tidy {F : Fd} (h : Ok F) {xs : List Nat} {c : Nat} (ht : Tidy xs) (hx : ∀ x ∈ xs, x < F.s) (c0 : 0 < c) (hc : c < F.s) : Tidy (scaled F xs c) := by
  refine ⟨fun h0 => ht.1 (by simpa [scaled] using h0), ?_⟩
  rcases ht.2 with h1 | h1
  · exact .inl (by rw [scaled_len]; exact h1)
  · right
    rcases xs with _ | ⟨x, r⟩
    · exact absurd rfl ht.1
    · have hx0 : 0 < x := by simp at h1; omega
      have := mul_pos h hx0 (hx x (List.mem_cons_self ..)) c0 hc
      simp [scaled]; omega
def dv (F : Fd) (gs : List Nat) : Nat → List Nat → List Nat
  | 0, xs => xs
  | _ + 1, [] => []
  | n + 1, x :: xs => dv F gs n (xo xs (scaled F gs x))
theorem dv_len (F : Fd) (gs : List Nat) : ∀ (n : Nat) (xs : List Nat), n ≤ xs.length → (dv F gs n xs).length = xs.length - n
  | 0, xs, _ => rfl
  | n + 1, [], h => by simp at h
  | n + 1, x :: xs, h => by
    have h' : n ≤ xs.length := by simpa using h
    rw [dv, dv_len F gs n _ (by rw [xo_len]; exact h'), xo_len]
    simp
theorem dv_lt {F : Fd} (h : Ok F) {gs : List Nat} (hg : ∀ x ∈ gs, x < F.s) : ∀ (n : Nat) (xs : List Nat), (∀ x ∈ xs, x < F.s) → ∀ x ∈ dv F gs n xs, x < F.s
  | 0, xs, hx => hx
  | n + 1, [], hx => fun x hx' => by cases hx'
  | n + 1, x :: xs, hx => by
    rw [dv]
    exact dv_lt h hg n _ (xo_lt _ _ (fun a ha => hx a (List.mem_cons_of_mem _ ha)) (scaled_lt h x hg))
theorem tidy_zero_cons (x : List Nat) (h : x ≠ []) : tidy (0 :: x) = tidy x := by
  rcases x with _ | ⟨y, r⟩
  · exact absurd rfl h
  · simp [tidy]
theorem tidy_cons_ne {x : Nat} (r : List Nat) (h : x ≠ 0) : tidy (x :: r) = x :: r := by
  rcases r with _ | ⟨y, r⟩
  · rfl
  · simp [tidy, h]
theorem rest_tidy_stop (F : Fd) (b : List Nat) (fuel : Nat) (r : List Nat) (h : r.length < b.length) : rest F b fuel r = r := by
  cases fuel with
  | zero => rfl
  | succ n => rw [rest, if_neg (by omega)]
theorem inv_one {F : Fd} (h : Ok F) : inv F 1 = 1 := by
  have h4 := s_ge4 h
  exact (inv_uniq h (by decide) (by omega) (by omega) (mul_one h (by omega))).symm
/-- The register makes the rest. -/
theorem rest_dv {F : Fd} (h : Ok F) {gs : List Nat} (hg : ∀ x ∈ gs, x < F.s) (hgn : 0 < gs.length) : ∀ (n fuel : Nat) (xs : List Nat), xs.length = n + gs.length → n ≤ fuel → (∀ x ∈ xs, x < F.s) →
    rest F (1 :: gs) fuel (tidy xs) = tidy (dv F gs n xs)
  | 0, fuel, xs, hl, _, _ => by
    have := tidy_len xs
    rw [dv, rest_tidy_stop]
    simp; omega
  | n + 1, 0, xs, _, hf, _ => by omega
  | n + 1, fuel + 1, [], hl, _, _ => by simp at hl; omega
  | n + 1, fuel + 1, x :: xs, hl, hf, hx => by
    have hl' : xs.length = n + gs.length := by simp at hl; omega
    have hxne : xs ≠ [] := by rintro rfl; simp at hl'; omega
    have hxs : ∀ z ∈ xs, z < F.s := fun a ha => hx a (List.mem_cons_of_mem _ ha)
    have hx0 := hx x (List.mem_cons_self ..)
    by_cases h0 : x = 0
    · subst h0
      rw [tidy_zero_cons _ hxne, dv, scaled_zero, xo_zero]
      exact rest_dv h hg hgn n (fuel + 1) xs hl' (by omega) hxs
    · rw [tidy_cons_ne xs h0, rest, if_pos ⟨by simp; omega, by simp [h0]⟩, dv]
      have hterm : term F (1 :: gs) (x :: xs) = x :: (scaled F gs x ++ List.replicate n 0) := by
        have e1 : lead F (1 :: gs) (x :: xs) = x := by
          unfold lead
          simp only [List.getD_cons_zero]
          rw [inv_one h, mul_one h hx0]
        unfold term
        rw [e1]
        have e2 : scaled F (1 :: gs) x = x :: scaled F gs x := by
          unfold scaled; rw [List.map_cons, one_mul h hx0]
        have e3 : (x :: xs).length - (1 :: gs).length = n := by simp; omega
        rw [e2, e3, List.cons_append, tidy_cons_ne _ h0]
      have hstep : restStep F (1 :: gs) (x :: xs) = tidy (xo xs (scaled F gs x)) := by
        unfold restStep
        rw [hterm, padd_same _ _ (by simp [scaled_len]; omega), xo, Nat.xor_self, tidy_zero_cons _ (by intro h1; have := congrArg List.length h1; rw [xo_len] at this; exact hxne (List.eq_nil_of_length_eq_zero this))]
        congr 1
        -- the zeros behind do nothing
        have hsplit : xs = xs.take gs.length ++ xs.drop gs.length := (List.take_append_drop _ _).symm
        have hlt : (xs.take gs.length).length = (scaled F gs x).length := by rw [scaled_len, List.length_take]; omega
        rw [hsplit, xo_append _ _ _ _ hlt, xo_zero]
        conv => rhs; rw [show scaled F gs x = scaled F gs x ++ [] from (List.append_nil _).symm]
        rw [xo_append _ _ _ _ hlt, xo_nil]
      rw [hstep]
      exact rest_dv h hg hgn n fuel _ (by rw [xo_len]; exact hl') (by omega) (xo_lt _ _ hxs (scaled_lt h x hg))
/-- Zeros ahead of a tidy list make what it was. -/
theorem pad_tidy : ∀ (xs : List Nat), xs ≠ [] → pad xs.length (tidy xs) = xs
  | [], h => absurd rfl h
  | [x], _ => by simp [tidy, pad]
  | x :: y :: r, _ => by
    by_cases h0 : x = 0
    · subst h0
      have ih := pad_tidy (y :: r) (by simp)
      have hl := tidy_len (y :: r)
      rw [tidy_zero_cons _ (by simp)]
      unfold pad at ih ⊢
      have e : (0 :: y :: r).length - (tidy (y :: r)).length = ((y :: r).length - (tidy (y :: r)).length) + 1 := by simp at hl ⊢; omega
      rw [e, List.replicate_succ, List.cons_append, ih]
    · rw [tidy_cons_ne _ h0, pad_same _ _ (Nat.le_refl _)]

/-! ### Values -/
/-- The value at a, by Horner. -/
def evFrom (F : Fd) (a : Nat) : Nat → List Nat → Nat
  | r, [] => r
  | r, x :: xs => evFrom F a (mul F a r ^^^ x) xs
def ev (F : Fd) (a : Nat) (xs : List Nat) : Nat := evFrom F a 0 xs
def pw (F : Fd) (a : Nat) : Nat → Nat
  | 0 => 1
  | n + 1 => mul F a (pw F a n)
theorem pw_lt {F : Fd} (h : Ok F) {a : Nat} (ha : a < F.s) : ∀ n, pw F a n < F.s
  | 0 => by have := s_ge4 h; show 1 < F.s; omega
  | n + 1 => mul_lt h _ ha
theorem xor_lt_s {F : Fd} {a b : Nat} (ha : a < F.s) (hb : b < F.s) : a ^^^ b < F.s := Nat.xor_lt_two_pow ha hb
theorem evFrom_lt {F : Fd} (h : Ok F) {a : Nat} (ha : a < F.s) : ∀ (xs : List Nat) (r : Nat), r < F.s → (∀ x ∈ xs, x < F.s) → evFrom F a r xs < F.s
  | [], _, hr, _ => hr
  | x :: xs, _, _, hx => evFrom_lt h ha xs _ (xor_lt_s (mul_lt h _ ha) (hx x (List.mem_cons_self ..))) (fun z hz => hx z (List.mem_cons_of_mem _ hz))
theorem evFrom_split {F : Fd} (h : Ok F) {a : Nat} (ha : a < F.s) : ∀ (xs : List Nat) (r : Nat), r < F.s → (∀ x ∈ xs, x < F.s) → evFrom F a r xs = mul F r (pw F a xs.length) ^^^ evFrom F a 0 xs
  | [], r, hr, _ => by show r = mul F r 1 ^^^ 0; rw [mul_one h hr, Nat.xor_zero]
  | x :: xs, r, hr, hx => by
    have hx0 := hx x (List.mem_cons_self ..)
    have hxs : ∀ z ∈ xs, z < F.s := fun z hz => hx z (List.mem_cons_of_mem _ hz)
    have hp := pw_lt h ha xs.length
    have hm := mul_lt (F := F) h r ha
    have e1 := evFrom_split h ha xs (mul F a r ^^^ x) (xor_lt_s hm hx0) hxs
    have e2 := evFrom_split h ha xs (mul F a 0 ^^^ x) (by rw [mul_zero, Nat.zero_xor]; exact hx0) hxs
    show evFrom F a (mul F a r ^^^ x) xs = mul F r (mul F a (pw F a xs.length)) ^^^ evFrom F a (mul F a 0 ^^^ x) xs
    rw [e1, e2, mul_zero, Nat.zero_xor, xor_mul h _ hm hx0, Nat.xor_assoc]
    congr 1
    rw [mul_comm h ha hr, mul_assoc h hr ha hp]
theorem ev_cons {F : Fd} (h : Ok F) {a : Nat} (ha : a < F.s) (x : Nat) (xs : List Nat) (hx : x < F.s) (hxs : ∀ z ∈ xs, z < F.s) : ev F a (x :: xs) = mul F x (pw F a xs.length) ^^^ ev F a xs := by
  show evFrom F a (mul F a 0 ^^^ x) xs = _
  rw [mul_zero, Nat.zero_xor]
  exact evFrom_split h ha xs x hx hxs
theorem ev_lt {F : Fd} (h : Ok F) {a : Nat} (ha : a < F.s) {xs : List Nat} (hx : ∀ x ∈ xs, x < F.s) : ev F a xs < F.s := evFrom_lt h ha xs 0 (s_pos F) hx
theorem ev_zero_cons {F : Fd} (a : Nat) (xs : List Nat) : ev F a (0 :: xs) = ev F a xs := by
  show evFrom F a (mul F a 0 ^^^ 0) xs = _
  rw [mul_zero]; rfl
theorem ev_pad (F : Fd) (a n : Nat) (xs : List Nat) : ev F a (List.replicate n 0 ++ xs) = ev F a xs := by
  induction n with
  | zero => rfl
  | succ n ih => rw [List.replicate_succ, List.cons_append, ev_zero_cons, ih]
theorem ev_tidy (F : Fd) (a : Nat) (xs : List Nat) (h : xs ≠ []) : ev F a (tidy xs) = ev F a xs := by
  conv => rhs; rw [← pad_tidy xs h]
  unfold pad
  rw [ev_pad]
end Go.Proofs.YtopfdmmimgnciaaGreatDoor.Gf
namespace Go.Proofs.YtopfdmmimgnciaaGreatDoor.Gf
open Go.Proofs.YtopfdmmimgnciaaGreatDoor

/-- A polynomial times (unknown - r), c coming from the left. -/
def lin (F : Fd) (r : Nat) : Nat → List Nat → List Nat
  | c, [] => [c]
  | c, x :: xs => (c ^^^ x) :: lin F r (mul F x r) xs
theorem lin_len (F : Fd) (r : Nat) : ∀ (xs : List Nat) (c : Nat), (lin F r c xs).length = xs.length + 1
  | [], _ => rfl
  | x :: xs, c => by rw [lin, List.length_cons, lin_len F r xs]; rfl
theorem lin_lt {F : Fd} (h : Ok F) {r : Nat} : ∀ (xs : List Nat) (c : Nat), c < F.s → (∀ x ∈ xs, x < F.s) → ∀ z ∈ lin F r c xs, z < F.s
  | [], c, hc, _, z, hz => by rw [lin, List.mem_singleton] at hz; rw [hz]; exact hc
  | x :: xs, c, hc, hx, z, hz => by
    have hx0 := hx x (List.mem_cons_self ..)
    rw [lin] at hz
    rcases List.mem_cons.1 hz with rfl | hz
    · exact xor_lt_s hc hx0
    · exact lin_lt h xs _ (mul_lt h r hx0) (fun a ha => hx a (List.mem_cons_of_mem _ ha)) z hz
theorem addAt_mid (pre t : List Nat) (c v : Nat) : addAt (pre ++ c :: t) pre.length v = pre ++ (c ^^^ v) :: t := by
  unfold addAt
  simp [List.getD]
theorem outer_lin {F : Fd} (h : Ok F) (r : Nat) : ∀ (xs pre : List Nat) (c : Nat), (∀ x ∈ xs, x < F.s) → outer F xs [1, r] pre.length (pre ++ c :: List.replicate xs.length 0) = pre ++ lin F r c xs
  | [], pre, c, _ => rfl
  | x :: xs, pre, c, hx => by
    have hx0 := hx x (List.mem_cons_self ..)
    have e1 : addAt (pre ++ c :: List.replicate (x :: xs).length 0) pre.length (mul F x 1) = (pre ++ [c ^^^ x]) ++ 0 :: List.replicate xs.length 0 := by
      rw [addAt_mid, mul_one h hx0, List.length_cons, List.replicate_succ]
      simp
    have e2 : addAt ((pre ++ [c ^^^ x]) ++ 0 :: List.replicate xs.length 0) (pre.length + 1) (mul F x r) = (pre ++ [c ^^^ x]) ++ mul F x r :: List.replicate xs.length 0 := by
      have := addAt_mid (pre ++ [c ^^^ x]) (List.replicate xs.length 0) 0 (mul F x r)
      rw [List.length_append, Nat.zero_xor] at this
      exact this
    have ih := outer_lin h r xs (pre ++ [c ^^^ x]) (mul F x r) (fun a ha => hx a (List.mem_cons_of_mem _ ha))
    rw [List.length_append] at ih
    show outer F xs [1, r] (pre.length + 1) (inner F x [1, r] pre.length (pre ++ c :: List.replicate (x :: xs).length 0)) = _
    have e3 : inner F x [1, r] pre.length (pre ++ c :: List.replicate (x :: xs).length 0) = (pre ++ [c ^^^ x]) ++ mul F x r :: List.replicate xs.length 0 := by
      show addAt (addAt _ pre.length (mul F x 1)) (pre.length + 1) (mul F x r) = _
      rw [e1, e2]
    rw [e3]
    refine ih.trans ?_
    rw [lin]; simp
theorem prod_lin {F : Fd} (h : Ok F) (r : Nat) (xs : List Nat) (hx : ∀ x ∈ xs, x < F.s) : prod F xs [1, r] = lin F r 0 xs := by
  have := outer_lin h r xs [] 0 hx
  unfold prod
  have e : xs.length + [1, r].length - 1 = xs.length + 1 := rfl
  rw [e, List.replicate_succ]
  simpa using this
theorem ev_lin {F : Fd} (h : Ok F) {a r : Nat} (ha : a < F.s) (hr : r < F.s) : ∀ (xs : List Nat) (c : Nat), c < F.s → (∀ x ∈ xs, x < F.s) → ev F a (lin F r c xs) = mul F c (pw F a xs.length) ^^^ mul F (ev F a xs) (a ^^^ r)
  | [], c, hc, _ => by
    show mul F a 0 ^^^ c = mul F c 1 ^^^ mul F 0 _
    rw [mul_zero, Nat.zero_xor, mul_one h hc, zero_mul, Nat.xor_zero]
  | x :: xs, c, hc, hx => by
    have hx0 := hx x (List.mem_cons_self ..)
    have hxs : ∀ z ∈ xs, z < F.s := fun z hz => hx z (List.mem_cons_of_mem _ hz)
    have hp := pw_lt h ha xs.length
    have hm := mul_lt (F := F) h r hx0
    have hpa : pw F a (xs.length + 1) = mul F a (pw F a xs.length) := rfl
    rw [lin, ev_cons h ha _ _ (xor_lt_s hc hx0) (lin_lt h xs _ hm hxs), ev_lin h ha hr xs _ hm hxs, ev_cons h ha _ _ hx0 hxs, lin_len, List.length_cons, xor_mul h _ (mul_lt h _ hx0) (ev_lt h ha hxs),
      xor_mul h _ hc hx0, mul_xor h (mul_lt h _ hx0) ha hr]
    have e1 : mul F x (pw F a (xs.length + 1)) = mul F (mul F x (pw F a xs.length)) a := by
      rw [hpa, mul_comm h ha hp, mul_assoc h hx0 hp ha]
    have e2 : mul F (mul F x r) (pw F a xs.length) = mul F (mul F x (pw F a xs.length)) r := by
      rw [mul_assoc h hx0 hr hp, mul_comm h hr hp, mul_assoc h hx0 hp hr]
    rw [e1, e2]
    simp only [Nat.xor_assoc]
theorem ev_prod_lin {F : Fd} (h : Ok F) {a r : Nat} (ha : a < F.s) (hr : r < F.s) (xs : List Nat) (hx : ∀ x ∈ xs, x < F.s) : ev F a (prod F xs [1, r]) = mul F (ev F a xs) (a ^^^ r) := by
  rw [prod_lin h r xs hx, ev_lin h ha hr xs 0 (s_pos F) hx, zero_mul, Nat.zero_xor]

/-- The generator of n words. -/
def gen (F : Fd) : Nat → List Nat
  | 0 => [1]
  | n + 1 => tidy (prod F (gen F n) [1, ex F (n + F.b)])
/-- What stands behind its first 1. -/
def gtail (F : Fd) (n : Nat) : List Nat := (gen F n).tail
theorem gen_spec {F : Fd} (h : Ok F) : ∀ n, gen F n = 1 :: gtail F n ∧ (gtail F n).length = n ∧ (∀ x ∈ gen F n, x < F.s) ∧ (∀ i, i < n → ev F (ex F (i + F.b)) (gen F n) = 0)
  | 0 => ⟨rfl, rfl, fun x hx => by have := s_ge4 h; simp [gen] at hx; omega, fun i hi => absurd hi (Nat.not_lt_zero _)⟩
  | n + 1 => by
    obtain ⟨h1, h2, h3, h4⟩ := gen_spec h n
    have h5 := s_ge4 h
    have hr := ex_lt h (n + F.b)
    have e0 : prod F (gen F n) [1, ex F (n + F.b)] = 1 :: lin F (ex F (n + F.b)) (ex F (n + F.b)) (gtail F n) := by
      rw [prod_lin h _ _ h3, h1, lin, Nat.zero_xor, one_mul h hr]
    have e1 : gen F (n + 1) = 1 :: lin F (ex F (n + F.b)) (ex F (n + F.b)) (gtail F n) := by
      show tidy (prod F (gen F n) [1, ex F (n + F.b)]) = _
      rw [e0, tidy_cons_ne _ (by decide)]
    have e2 : gtail F (n + 1) = lin F (ex F (n + F.b)) (ex F (n + F.b)) (gtail F n) := by unfold gtail; rw [e1]; rfl
    have h3' : ∀ x ∈ gtail F n, x < F.s := fun x hx => h3 x (by rw [h1]; exact List.mem_cons_of_mem _ hx)
    refine ⟨by rw [e1, e2], by rw [e2, lin_len, h2], fun x hx => ?_, fun i hi => ?_⟩
    · rw [e1] at hx
      rcases List.mem_cons.1 hx with rfl | hx
      · omega
      · exact lin_lt h _ _ hr h3' x hx
    · have e3 : gen F (n + 1) = prod F (gen F n) [1, ex F (n + F.b)] := by rw [e1, e0]
      rw [e3, ev_prod_lin h (ex_lt h _) hr _ h3]
      rcases Nat.lt_or_ge i n with hin | hin
      · rw [h4 i hin, zero_mul]
      · obtain rfl : i = n := by omega
        rw [Nat.xor_self, mul_zero]
/-- Data with n words behind it that make the whole a multiple of the generator. -/
def enc (F : Fd) (n : Nat) (data : List Nat) : List Nat := data ++ dv F (gtail F n) data.length (data ++ List.replicate n 0)
theorem gtail_lt {F : Fd} (h : Ok F) (n : Nat) : ∀ x ∈ gtail F n, x < F.s := fun x hx => by
  obtain ⟨h1, _, h3, _⟩ := gen_spec h n
  exact h3 x (by rw [h1]; exact List.mem_cons_of_mem _ hx)
theorem enc_len {F : Fd} (n : Nat) (data : List Nat) : (enc F n data).length = data.length + n := by
  unfold enc
  rw [List.length_append, dv_len _ _ _ _ (by simp)]
  simp
theorem enc_lt {F : Fd} (h : Ok F) (n : Nat) {data : List Nat} (hd : ∀ x ∈ data, x < F.s) : ∀ x ∈ enc F n data, x < F.s :=
  app_lt hd (dv_lt h (gtail_lt h n) _ _ (app_lt hd (rep_lt n)))
/-- What the division leaves, padded. -/
theorem enc_rest {F : Fd} (h : Ok F) {n : Nat} (hn : 0 < n) {data : List Nat} (hd : ∀ x ∈ data, x < F.s) (fuel : Nat) (hf : data.length ≤ fuel) :
    data ++ pad n (rest F (gen F n) fuel (tidy (data ++ List.replicate n 0))) = enc F n data := by
  obtain ⟨h1, h2, _, _⟩ := gen_spec h n
  unfold enc
  congr 1
  rw [h1, rest_dv h (gtail_lt h n) (by omega) data.length fuel _ (by simp [h2]) hf (app_lt hd (rep_lt n))]
  have hl : (dv F (gtail F n) data.length (data ++ List.replicate n 0)).length = n := by rw [dv_len _ _ _ _ (by simp)]; simp
  have := pad_tidy (dv F (gtail F n) data.length (data ++ List.replicate n 0)) (by intro h0; rw [h0] at hl; simp at hl; omega)
  rw [hl] at this
  exact this
theorem rest_len {F : Fd} (h : Ok F) {n : Nat} (hn : 0 < n) {data : List Nat} (hd : ∀ x ∈ data, x < F.s) (fuel : Nat) (hf : data.length ≤ fuel) :
    (rest F (gen F n) fuel (tidy (data ++ List.replicate n 0))).length ≤ n := by
  obtain ⟨h1, h2, _, _⟩ := gen_spec h n
  rw [h1, rest_dv h (gtail_lt h n) (by omega) data.length fuel _ (by simp [h2]) hf (app_lt hd (rep_lt n))]
  refine Nat.le_trans (tidy_len _) ?_
  rw [dv_len _ _ _ _ (by simp)]; simp
/-- How long a division may go on. -/
def mes (r : List Nat) : Nat := if r = [0] then 0 else r.length
theorem mes_le (r : List Nat) : mes r ≤ r.length := by unfold mes; split <;> omega
theorem rest_zero (F : Fd) (b : List Nat) (fuel : Nat) : rest F b fuel [0] = [0] := by
  cases fuel with
  | zero => rfl
  | succ n => rw [rest, if_neg (by simp)]
theorem rest_short (F : Fd) (b : List Nat) (fuel : Nat) (r : List Nat) (h : ¬ b.length ≤ r.length) : rest F b fuel r = r := rest_tidy_stop F b fuel r (by omega)
theorem rest_step (F : Fd) (b : List Nat) (fuel : Nat) (r : List Nat) (h1 : b.length ≤ r.length) (h2 : r ≠ [0]) : rest F b (fuel + 1) r = rest F b fuel (restStep F b r) := by
  rw [rest, if_pos ⟨h1, h2⟩]
theorem lead_pos {F : Fd} (h : Ok F) {b r : List Nat} (ht : Tidy r) (hr : ∀ x ∈ r, x < F.s) (h0 : r ≠ [0]) : 0 < lead F b r := by
  have hn : 0 < r.length := by rcases r with _ | ⟨x, t⟩; exact absurd rfl ht.1; simp
  have hr0 : 0 < r.getD 0 0 := by
    rcases ht.2 with h1 | h1
    · rcases r with _ | ⟨x, _ | ⟨y, t⟩⟩
      · exact absurd rfl ht.1
      · have : x ≠ 0 := fun h2 => h0 (by rw [h2])
        simp; omega
      · simp at h1
    · omega
  have hlt : r.getD 0 0 < F.s := by rw [getD_lt _ _ _ hn]; exact hr _ (List.getElem_mem hn)
  exact mul_pos h hr0 hlt (inv_pos h _) (inv_lt h _)
theorem restStep_mes {F : Fd} (h : Ok F) {b r : List Nat} (hb : ∀ x ∈ b, x < F.s) (hr : ∀ x ∈ r, x < F.s) (hbt : 0 < b.length) (hb0 : b.getD 0 0 ≠ 0) (ht : Tidy r) (h1 : b.length ≤ r.length) (h0 : r ≠ [0]) :
    mes (restStep F b r) < mes r ∧ (restStep F b r).length ≤ r.length := by
  have hl := lead_pos (b := b) h ht hr h0
  have hll := lead_lt h b hr (by omega)
  rcases b with _ | ⟨y, bs⟩
  · simp at hbt
  rcases r with _ | ⟨x, rs⟩
  · simp at h1
  have hy0 : 0 < y := by simp at hb0; omega
  have hys := hb y (List.mem_cons_self ..)
  have hxs := hr x (List.mem_cons_self ..)
  have e1 : mul F y (lead F (y :: bs) (x :: rs)) = x := by
    show mul F y (mul F x (inv F y)) = x
    have hi := inv_lt (F := F) h y
    rw [mul_comm h hxs hi, ← mul_assoc h hys hi hxs, mul_inv h hy0 hys, one_mul h hxs]
  have hx0 : x ≠ 0 := by
    intro hx
    have := mul_pos h hy0 hys hl hll
    rw [e1] at this; omega
  generalize hc : lead F (y :: bs) (x :: rs) = c at *
  have e2 : term F (y :: bs) (x :: rs) = x :: (scaled F bs c ++ List.replicate ((x :: rs).length - (y :: bs).length) 0) := by
    unfold term
    rw [hc]
    have : scaled F (y :: bs) c = x :: scaled F bs c := by unfold scaled; rw [List.map_cons, e1]
    rw [this, List.cons_append, tidy_cons_ne _ hx0]
  have hlen : (scaled F bs c ++ List.replicate ((x :: rs).length - (y :: bs).length) 0).length = rs.length := by
    rw [List.length_append, scaled_len, List.length_replicate]; simp at h1 ⊢; omega
  have e3 : restStep F (y :: bs) (x :: rs) = tidy (0 :: xo rs (scaled F bs c ++ List.replicate ((x :: rs).length - (y :: bs).length) 0)) := by
    unfold restStep
    rw [e2, padd_same (x :: rs) (x :: _) (congrArg Nat.succ hlen.symm), xo, Nat.xor_self]
  have hm : mes (x :: rs) = rs.length + 1 := by unfold mes; rw [if_neg h0]; rfl
  rw [e3, hm]
  rcases rs with _ | ⟨z, t⟩
  · have : xo [] (scaled F bs c ++ List.replicate ([x].length - (y :: bs).length) 0) = [] := List.eq_nil_of_length_eq_zero (by rw [xo_len]; rfl)
    rw [this]
    exact ⟨by decide, Nat.le_refl _⟩
  · generalize hu : xo (z :: t) (scaled F bs c ++ List.replicate ((x :: z :: t).length - (y :: bs).length) 0) = u
    have hul : u.length = t.length + 1 := by rw [← hu, xo_len]; rfl
    have hune : u ≠ [] := by intro hh; rw [hh] at hul; simp at hul
    rw [tidy_zero_cons _ hune]
    have h2 := tidy_len u
    have h3 := mes_le (tidy u)
    simp only [List.length_cons]
    omega
theorem restStep_tidy {F : Fd} {b r : List Nat} (hr : r ≠ []) : Tidy (restStep F b r) := by
  unfold restStep
  refine tidy_tidy _ (fun h0 => ?_)
  have := congrArg List.length h0
  rw [padd_len] at this
  have h1 : 0 < r.length := by rcases r with _ | ⟨x, t⟩; exact absurd rfl hr; simp
  rw [List.length_nil] at this
  omega
end Go.Proofs.YtopfdmmimgnciaaGreatDoor.Gf
