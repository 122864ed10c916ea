/-
  PLAIN: the generator: a product of (unknown - root); that its first coefficient is 1 and that it is 0 at its roots; words of a code.
-/
import Derived.Test.YtibdeekgcbmofaaRq
namespace Go.Proofs.Ytibdeekgcbmofaa.Gf
open Go.Proofs.Ytibdeekgcbmofaa

/-- A polynomial times (unknown - r), c coming from the left. -/
def lin (F : Fd) (r : Nat) : Nat → List Nat → List Nat
  | c, [] => [c]
  | c, x :: xs => (c ^^^ x) :: lin F r (mul F x r) xs
theorem lin_len (F : Fd) (r : Nat) : ∀ (xs : List Nat) (c : Nat), (lin F r c xs).length = xs.length + 1
  | [], _ => rfl
  | x :: xs, c => by rw [lin, List.length_cons, lin_len F r xs]; rfl
theorem lin_lt {F : Fd} (h : Ok F) {r : Nat} : ∀ (xs : List Nat) (c : Nat), c < F.s → (∀ x ∈ xs, x < F.s) → ∀ z ∈ lin F r c xs, z < F.s
  | [], c, hc, _, z, hz => by rw [lin, List.mem_singleton] at hz; rw [hz]; exact hc
  | x :: xs, c, hc, hx, z, hz => by
    have hx0 := hx x (List.mem_cons_self ..)
    rw [lin] at hz
    rcases List.mem_cons.1 hz with rfl | hz
    · exact xor_lt_s hc hx0
    · exact lin_lt h xs _ (mul_lt h r hx0) (fun a ha => hx a (List.mem_cons_of_mem _ ha)) z hz
theorem addAt_mid (pre t : List Nat) (c v : Nat) : addAt (pre ++ c :: t) pre.length v = pre ++ (c ^^^ v) :: t := by
  unfold addAt
  simp [List.getD]
theorem outer_lin {F : Fd} (h : Ok F) (r : Nat) : ∀ (xs pre : List Nat) (c : Nat), (∀ x ∈ xs, x < F.s) → outer F xs [1, r] pre.length (pre ++ c :: List.replicate xs.length 0) = pre ++ lin F r c xs
  | [], pre, c, _ => rfl
  | x :: xs, pre, c, hx => by
    have hx0 := hx x (List.mem_cons_self ..)
    have e1 : addAt (pre ++ c :: List.replicate (x :: xs).length 0) pre.length (mul F x 1) = (pre ++ [c ^^^ x]) ++ 0 :: List.replicate xs.length 0 := by
      rw [addAt_mid, mul_one h hx0, List.length_cons, List.replicate_succ]
      simp
    have e2 : addAt ((pre ++ [c ^^^ x]) ++ 0 :: List.replicate xs.length 0) (pre.length + 1) (mul F x r) = (pre ++ [c ^^^ x]) ++ mul F x r :: List.replicate xs.length 0 := by
      have := addAt_mid (pre ++ [c ^^^ x]) (List.replicate xs.length 0) 0 (mul F x r)
      rw [List.length_append, Nat.zero_xor] at this
      exact this
    have ih := outer_lin h r xs (pre ++ [c ^^^ x]) (mul F x r) (fun a ha => hx a (List.mem_cons_of_mem _ ha))
    rw [List.length_append] at ih
    show outer F xs [1, r] (pre.length + 1) (inner F x [1, r] pre.length (pre ++ c :: List.replicate (x :: xs).length 0)) = _
    have e3 : inner F x [1, r] pre.length (pre ++ c :: List.replicate (x :: xs).length 0) = (pre ++ [c ^^^ x]) ++ mul F x r :: List.replicate xs.length 0 := by
      show addAt (addAt _ pre.length (mul F x 1)) (pre.length + 1) (mul F x r) = _
      rw [e1, e2]
    rw [e3]
    refine ih.trans ?_
    rw [lin]; simp
theorem prod_lin {F : Fd} (h : Ok F) (r : Nat) (xs : List Nat) (hx : ∀ x ∈ xs, x < F.s) : prod F xs [1, r] = lin F r 0 xs := by
  have := outer_lin h r xs [] 0 hx
  unfold prod
  have e : xs.length + [1, r].length - 1 = xs.length + 1 := rfl
  rw [e, List.replicate_succ]
  simpa using this
theorem ev_lin {F : Fd} (h : Ok F) {a r : Nat} (ha : a < F.s) (hr : r < F.s) : ∀ (xs : List Nat) (c : Nat), c < F.s → (∀ x ∈ xs, x < F.s) → ev F a (lin F r c xs) = mul F c (pw F a xs.length) ^^^ mul F (ev F a xs) (a ^^^ r)
  | [], c, hc, _ => by
    show mul F a 0 ^^^ c = mul F c 1 ^^^ mul F 0 _
    rw [mul_zero, Nat.zero_xor, mul_one h hc, zero_mul, Nat.xor_zero]
  | x :: xs, c, hc, hx => by
    have hx0 := hx x (List.mem_cons_self ..)
    have hxs : ∀ z ∈ xs, z < F.s := fun z hz => hx z (List.mem_cons_of_mem _ hz)
    have hp := pw_lt h ha xs.length
    have hm := mul_lt (F := F) h r hx0
    have hpa : pw F a (xs.length + 1) = mul F a (pw F a xs.length) := rfl
    rw [lin, ev_cons h ha _ _ (xor_lt_s hc hx0) (lin_lt h xs _ hm hxs), ev_lin h ha hr xs _ hm hxs, ev_cons h ha _ _ hx0 hxs, lin_len, List.length_cons, xor_mul h _ (mul_lt h _ hx0) (ev_lt h ha hxs),
      xor_mul h _ hc hx0, mul_xor h (mul_lt h _ hx0) ha hr]
    have e1 : mul F x (pw F a (xs.length + 1)) = mul F (mul F x (pw F a xs.length)) a := by
      rw [hpa, mul_comm h ha hp, mul_assoc h hx0 hp ha]
    have e2 : mul F (mul F x r) (pw F a xs.length) = mul F (mul F x (pw F a xs.length)) r := by
      rw [mul_assoc h hx0 hr hp, mul_comm h hr hp, mul_assoc h hx0 hp hr]
    rw [e1, e2]
    simp only [Nat.xor_assoc]
theorem ev_prod_lin {F : Fd} (h : Ok F) {a r : Nat} (ha : a < F.s) (hr : r < F.s) (xs : List Nat) (hx : ∀ x ∈ xs, x < F.s) : ev F a (prod F xs [1, r]) = mul F (ev F a xs) (a ^^^ r) := by
  rw [prod_lin h r xs hx, ev_lin h ha hr xs 0 (s_pos F) hx, zero_mul, Nat.zero_xor]

/-- The generator of n words. -/
def gen (F : Fd) : Nat → List Nat
  | 0 => [1]
  | n + 1 => tidy (prod F (gen F n) [1, ex F (n + F.b)])
/-- What stands behind its first 1. -/
def gtail (F : Fd) (n : Nat) : List Nat := (gen F n).tail
theorem gen_spec {F : Fd} (h : Ok F) : ∀ n, gen F n = 1 :: gtail F n ∧ (gtail F n).length = n ∧ (∀ x ∈ gen F n, x < F.s) ∧ (∀ i, i < n → ev F (ex F (i + F.b)) (gen F n) = 0)
  | 0 => ⟨rfl, rfl, fun x hx => by have := s_ge4 h; simp [gen] at hx; omega, fun i hi => absurd hi (Nat.not_lt_zero _)⟩
  | n + 1 => by
    obtain ⟨h1, h2, h3, h4⟩ := gen_spec h n
    have h5 := s_ge4 h
    have hr := ex_lt h (n + F.b)
    have e0 : prod F (gen F n) [1, ex F (n + F.b)] = 1 :: lin F (ex F (n + F.b)) (ex F (n + F.b)) (gtail F n) := by
      rw [prod_lin h _ _ h3, h1, lin, Nat.zero_xor, one_mul h hr]
    have e1 : gen F (n + 1) = 1 :: lin F (ex F (n + F.b)) (ex F (n + F.b)) (gtail F n) := by
      show tidy (prod F (gen F n) [1, ex F (n + F.b)]) = _
      rw [e0, tidy_cons_ne _ (by decide)]
    have e2 : gtail F (n + 1) = lin F (ex F (n + F.b)) (ex F (n + F.b)) (gtail F n) := by unfold gtail; rw [e1]; rfl
    have h3' : ∀ x ∈ gtail F n, x < F.s := fun x hx => h3 x (by rw [h1]; exact List.mem_cons_of_mem _ hx)
    refine ⟨by rw [e1, e2], by rw [e2, lin_len, h2], fun x hx => ?_, fun i hi => ?_⟩
    · rw [e1] at hx
      rcases List.mem_cons.1 hx with rfl | hx
      · omega
      · exact lin_lt h _ _ hr h3' x hx
    · have e3 : gen F (n + 1) = prod F (gen F n) [1, ex F (n + F.b)] := by rw [e1, e0]
      rw [e3, ev_prod_lin h (ex_lt h _) hr _ h3]
      rcases Nat.lt_or_ge i n with hin | hin
      · rw [h4 i hin, zero_mul]
      · obtain rfl : i = n := by omega
        rw [Nat.xor_self, mul_zero]
/-- Data with n words behind it that make the whole a multiple of the generator. -/
def enc (F : Fd) (n : Nat) (data : List Nat) : List Nat := data ++ dv F (gtail F n) data.length (data ++ List.replicate n 0)
theorem gtail_lt {F : Fd} (h : Ok F) (n : Nat) : ∀ x ∈ gtail F n, x < F.s := fun x hx => by
  obtain ⟨h1, _, h3, _⟩ := gen_spec h n
  exact h3 x (by rw [h1]; exact List.mem_cons_of_mem _ hx)
theorem enc_len {F : Fd} (n : Nat) (data : List Nat) : (enc F n data).length = data.length + n := by
  unfold enc
  rw [List.length_append, dv_len _ _ _ _ (by simp)]
  simp
theorem enc_lt {F : Fd} (h : Ok F) (n : Nat) {data : List Nat} (hd : ∀ x ∈ data, x < F.s) : ∀ x ∈ enc F n data, x < F.s :=
  app_lt hd (dv_lt h (gtail_lt h n) _ _ (app_lt hd (rep_lt n)))
/-- What the division leaves, padded. -/
theorem enc_rest {F : Fd} (h : Ok F) {n : Nat} (hn : 0 < n) {data : List Nat} (hd : ∀ x ∈ data, x < F.s) (fuel : Nat) (hf : data.length ≤ fuel) :
    data ++ pad n (rest F (gen F n) fuel (tidy (data ++ List.replicate n 0))) = enc F n data := by
  obtain ⟨h1, h2, _, _⟩ := gen_spec h n
  unfold enc
  congr 1
  rw [h1, rest_dv h (gtail_lt h n) (by omega) data.length fuel _ (by simp [h2]) hf (app_lt hd (rep_lt n))]
  have hl : (dv F (gtail F n) data.length (data ++ List.replicate n 0)).length = n := by rw [dv_len _ _ _ _ (by simp)]; simp
  have := pad_tidy (dv F (gtail F n) data.length (data ++ List.replicate n 0)) (by intro h0; rw [h0] at hl; simp at hl; omega)
  rw [hl] at this
  exact this
theorem rest_len {F : Fd} (h : Ok F) {n : Nat} (hn : 0 < n) {data : List Nat} (hd : ∀ x ∈ data, x < F.s) (fuel : Nat) (hf : data.length ≤ fuel) :
    (rest F (gen F n) fuel (tidy (data ++ List.replicate n 0))).length ≤ n := by
  obtain ⟨h1, h2, _, _⟩ := gen_spec h n
  rw [h1, rest_dv h (gtail_lt h n) (by omega) data.length fuel _ (by simp [h2]) hf (app_lt hd (rep_lt n))]
  refine Nat.le_trans (tidy_len _) ?_
  rw [dv_len _ _ _ _ (by simp)]; simp
/-- A code's word is zero at each root. -/
theorem enc_root {F : Fd} (h : Ok F) {n : Nat} {data : List Nat} (hd : ∀ x ∈ data, x < F.s) {i : Nat} (hi : i < n) : ev F (ex F (i + F.b)) (enc F n data) = 0 := by
  obtain ⟨h1, h2, _, h4⟩ := gen_spec h n
  have ha := ex_lt h (i + F.b)
  have hr : ev F (ex F (i + F.b)) (1 :: gtail F n) = 0 := by rw [← h1]; exact h4 i hi
  have hz := app_lt hd (rep_lt (F := F) n)
  have e1 := ev_dv h ha (gtail_lt h n) hr data.length (data ++ List.replicate n 0) (by simp [h2]) hz
  have hl : (dv F (gtail F n) data.length (data ++ List.replicate n 0)).length = n := by rw [dv_len _ _ _ _ (by simp)]; simp
  have hlt := dv_lt h (gtail_lt h n) data.length _ hz
  have e2 : enc F n data = xo (data ++ List.replicate n 0) (List.replicate data.length 0 ++ dv F (gtail F n) data.length (data ++ List.replicate n 0)) := by
    rw [xo_append _ _ _ _ (by simp), xo_zero, zero_xo _ _ hl]; rfl
  rw [e2, ev_xo h ha _ _ (by simp [hl]) hz (app_lt (rep_lt _) hlt), ev_pad, e1, Nat.xor_self]
theorem enc_xor {F : Fd} (h : Ok F) {n : Nat} {p q : List Nat} (hl : p.length = q.length) (hp : ∀ x ∈ p, x < F.s) (hq : ∀ x ∈ q, x < F.s) : enc F n (xo p q) = xo (enc F n p) (enc F n q) := by
  obtain ⟨_, h2, _, _⟩ := gen_spec h n
  unfold enc
  have e : xo p q ++ List.replicate n 0 = xo (p ++ List.replicate n 0) (q ++ List.replicate n 0) := by rw [xo_append _ _ _ _ hl, xo_zero]
  rw [xo_append _ _ _ _ hl, xo_len, e, dv_xor h (gtail_lt h n) _ _ _ (by simp [hl]) (by simp [h2]) (app_lt hp (rep_lt n)) (app_lt hq (rep_lt n)), hl]
/-- How long a division may go on. -/
def mes (r : List Nat) : Nat := if r = [0] then 0 else r.length
theorem mes_le (r : List Nat) : mes r ≤ r.length := by unfold mes; split <;> omega
theorem rest_zero (F : Fd) (b : List Nat) (fuel : Nat) : rest F b fuel [0] = [0] := by
  cases fuel with
  | zero => rfl
  | succ n => rw [rest, if_neg (by simp)]
theorem rest_short (F : Fd) (b : List Nat) (fuel : Nat) (r : List Nat) (h : ¬ b.length ≤ r.length) : rest F b fuel r = r := rest_tidy_stop F b fuel r (by omega)
theorem rest_step (F : Fd) (b : List Nat) (fuel : Nat) (r : List Nat) (h1 : b.length ≤ r.length) (h2 : r ≠ [0]) : rest F b (fuel + 1) r = rest F b fuel (restStep F b r) := by
  rw [rest, if_pos ⟨h1, h2⟩]
theorem lead_pos {F : Fd} (h : Ok F) {b r : List Nat} (ht : Tidy r) (hr : ∀ x ∈ r, x < F.s) (h0 : r ≠ [0]) : 0 < lead F b r := by
  have hn : 0 < r.length := by rcases r with _ | ⟨x, t⟩; exact absurd rfl ht.1; simp
  have hr0 : 0 < r.getD 0 0 := by
    rcases ht.2 with h1 | h1
    · rcases r with _ | ⟨x, _ | ⟨y, t⟩⟩
      · exact absurd rfl ht.1
      · have : x ≠ 0 := fun h2 => h0 (by rw [h2])
        simp; omega
      · simp at h1
    · omega
  have hlt : r.getD 0 0 < F.s := by rw [getD_lt _ _ _ hn]; exact hr _ (List.getElem_mem hn)
  exact mul_pos h hr0 hlt (inv_pos h _) (inv_lt h _)
theorem restStep_mes {F : Fd} (h : Ok F) {b r : List Nat} (hb : ∀ x ∈ b, x < F.s) (hr : ∀ x ∈ r, x < F.s) (hbt : 0 < b.length) (hb0 : b.getD 0 0 ≠ 0) (ht : Tidy r) (h1 : b.length ≤ r.length) (h0 : r ≠ [0]) :
    mes (restStep F b r) < mes r ∧ (restStep F b r).length ≤ r.length := by
  have hl := lead_pos (b := b) h ht hr h0
  have hll := lead_lt h b hr (by omega)
  rcases b with _ | ⟨y, bs⟩
  · simp at hbt
  rcases r with _ | ⟨x, rs⟩
  · simp at h1
  have hy0 : 0 < y := by simp at hb0; omega
  have hys := hb y (List.mem_cons_self ..)
  have hxs := hr x (List.mem_cons_self ..)
  have e1 : mul F y (lead F (y :: bs) (x :: rs)) = x := by
    show mul F y (mul F x (inv F y)) = x
    have hi := inv_lt (F := F) h y
    rw [mul_comm h hxs hi, ← mul_assoc h hys hi hxs, mul_inv h hy0 hys, one_mul h hxs]
  have hx0 : x ≠ 0 := by
    intro hx
    have := mul_pos h hy0 hys hl hll
    rw [e1] at this; omega
  generalize hc : lead F (y :: bs) (x :: rs) = c at *
  have e2 : term F (y :: bs) (x :: rs) = x :: (scaled F bs c ++ List.replicate ((x :: rs).length - (y :: bs).length) 0) := by
    unfold term
    rw [hc]
    have : scaled F (y :: bs) c = x :: scaled F bs c := by unfold scaled; rw [List.map_cons, e1]
    rw [this, List.cons_append, tidy_cons_ne _ hx0]
  have hlen : (scaled F bs c ++ List.replicate ((x :: rs).length - (y :: bs).length) 0).length = rs.length := by
    rw [List.length_append, scaled_len, List.length_replicate]; simp at h1 ⊢; omega
  have e3 : restStep F (y :: bs) (x :: rs) = tidy (0 :: xo rs (scaled F bs c ++ List.replicate ((x :: rs).length - (y :: bs).length) 0)) := by
    unfold restStep
    rw [e2, padd_same (x :: rs) (x :: _) (congrArg Nat.succ hlen.symm), xo, Nat.xor_self]
  have hm : mes (x :: rs) = rs.length + 1 := by unfold mes; rw [if_neg h0]; rfl
  rw [e3, hm]
  rcases rs with _ | ⟨z, t⟩
  · have : xo [] (scaled F bs c ++ List.replicate ([x].length - (y :: bs).length) 0) = [] := List.eq_nil_of_length_eq_zero (by rw [xo_len]; rfl)
    rw [this]
    exact ⟨by decide, Nat.le_refl _⟩
  · generalize hu : xo (z :: t) (scaled F bs c ++ List.replicate ((x :: z :: t).length - (y :: bs).length) 0) = u
    have hul : u.length = t.length + 1 := by rw [← hu, xo_len]; rfl
    have hune : u ≠ [] := by intro hh; rw [hh] at hul; simp at hul
    rw [tidy_zero_cons _ hune]
    have h2 := tidy_len u
    have h3 := mes_le (tidy u)
    simp only [List.length_cons]
    omega
theorem restStep_tidy {F : Fd} {b r : List Nat} (hr : r ≠ []) : Tidy (restStep F b r) := by
  unfold restStep
  refine tidy_tidy _ (fun h0 => ?_)
  have := congrArg List.length h0
  rw [padd_len] at this
  have h1 : 0 < r.length := by rcases r with _ | ⟨x, t⟩; exact absurd rfl hr; simp
  rw [List.length_nil] at this
  omega
end Go.Proofs.Ytibdeekgcbmofaa.Gf
