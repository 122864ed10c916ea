/-
  PLAIN: values of finite series; division by factors 1 + X x.
-/
import Derived.Test.YtibdeekgcbmofaaKm1
namespace Go.Proofs.Ytibdeekgcbmofaa.Gf

def sl (f : Nat → Nat) : Nat → Nat := fun n => f (n + 1)
/-- The value at a of the first d coefficients. -/
def evF (F : Fd) (a : Nat) : Nat → (Nat → Nat) → Nat
  | 0, _ => 0
  | d + 1, f => f 0 ^^^ mul F a (evF F a d (sl f))
def evl (F : Fd) (a : Nat) : List Nat → Nat
  | [] => 0
  | x :: p => x ^^^ mul F a (evl F a p)
def pk (F : Fd) (a : Nat) : Nat → Nat
  | 0 => 1
  | n + 1 => mul F a (pk F a n)
def dvX (F : Fd) (X : Nat) (f : Nat → Nat) : Nat → Nat
  | 0 => f 0
  | n + 1 => f (n + 1) ^^^ mul F X (dvX F X f n)
theorem Bd.sl {F : Fd} {f : Nat → Nat} (hf : Bd F f) : Bd F (sl f) := fun n => hf (n + 1)
theorem sl_sh (f : Nat → Nat) : sl (sh f) = f := rfl
theorem sl_ad (f g : Nat → Nat) : sl (ad f g) = ad (sl f) (sl g) := rfl
theorem sl_sc (F : Fd) (c : Nat) (f : Nat → Nat) : sl (sc F c f) = sc F c (sl f) := rfl
section
variable {F : Fd} (h : Ok F)
include h
theorem pk_lt {a : Nat} (ha : a < F.s) : ∀ n, pk F a n < F.s
  | 0 => by have := s_ge4 h; show 1 < F.s; omega
  | _ + 1 => mul_lt h _ ha
theorem pk_pos {a : Nat} (h0 : 0 < a) (ha : a < F.s) : ∀ n, 0 < pk F a n
  | 0 => Nat.one_pos
  | n + 1 => mul_pos h h0 ha (pk_pos h0 ha n) (pk_lt h ha n)
theorem evF_lt {a : Nat} (ha : a < F.s) : ∀ (d : Nat) {f : Nat → Nat}, Bd F f → evF F a d f < F.s
  | 0, _, _ => s_pos F
  | _ + 1, _, hf => xlt (hf 0) (mul_lt h _ ha)
theorem evF_ad {a : Nat} (ha : a < F.s) : ∀ (d : Nat) {f g : Nat → Nat}, Bd F f → Bd F g → evF F a d (ad f g) = evF F a d f ^^^ evF F a d g
  | 0, _, _, _, _ => (Nat.xor_self 0).symm
  | d + 1, f, g, hf, hg => by
    have ih := evF_ad ha d hf.sl hg.sl
    show (f 0 ^^^ g 0) ^^^ mul F a (evF F a d (sl (ad f g))) = (f 0 ^^^ mul F a (evF F a d (sl f))) ^^^ (g 0 ^^^ mul F a (evF F a d (sl g)))
    rw [sl_ad, ih, mul_xor h ha (evF_lt h ha d hf.sl) (evF_lt h ha d hg.sl), x4]
theorem evF_sc {a c : Nat} (ha : a < F.s) (hc : c < F.s) : ∀ (d : Nat) {f : Nat → Nat}, Bd F f → evF F a d (sc F c f) = mul F c (evF F a d f)
  | 0, _, _ => (mul_zero F c).symm
  | d + 1, f, hf => by
    have ih := evF_sc ha hc d hf.sl
    have hE := evF_lt h ha d hf.sl
    show mul F c (f 0) ^^^ mul F a (evF F a d (sl (sc F c f))) = mul F c (f 0 ^^^ mul F a (evF F a d (sl f)))
    rw [sl_sc, ih, mul_xor h hc (hf 0) (mul_lt h _ ha), ← mul_assoc h ha hc hE, mul_comm h ha hc, mul_assoc h hc ha hE]
omit h in
theorem evF_sh (a d : Nat) (f : Nat → Nat) : evF F a (d + 1) (sh f) = mul F a (evF F a d f) := by
  show 0 ^^^ mul F a (evF F a d (sl (sh f))) = _
  rw [Nat.zero_xor, sl_sh]
omit h in
theorem evF_zero (a : Nat) : ∀ (d : Nat) {f : Nat → Nat}, (∀ n, f n = 0) → evF F a d f = 0
  | 0, _, _ => rfl
  | d + 1, f, hf => by
    have e : evF F a d (sl f) = 0 := evF_zero a d (fun n => hf (n + 1))
    show f 0 ^^^ mul F a (evF F a d (sl f)) = 0
    rw [hf 0, e, mul_zero]; rfl
omit h in
theorem evF_more (a k : Nat) : ∀ (d : Nat) {f : Nat → Nat}, (∀ n, d ≤ n → f n = 0) → evF F a (d + k) f = evF F a d f
  | 0, f, hf => by rw [evF_zero a _ (fun n => hf n (Nat.zero_le _))]; rfl
  | d + 1, f, hf => by
    have ih := evF_more a k d (f := sl f) (fun n hn => hf (n + 1) (by omega))
    rw [show d + 1 + k = (d + k) + 1 by omega]
    show f 0 ^^^ mul F a (evF F a (d + k) (sl f)) = f 0 ^^^ mul F a (evF F a d (sl f))
    rw [ih]
omit h in
theorem evF_to (a : Nat) {d e : Nat} {f : Nat → Nat} (hf : ∀ n, d ≤ n → f n = 0) (he : d ≤ e) : evF F a e f = evF F a d f := by
  have := evF_more (F := F) a (e - d) d hf
  rwa [show d + (e - d) = e by omega] at this
theorem evl_lt {a : Nat} (ha : a < F.s) : ∀ {p : List Nat}, Ls F p → evl F a p < F.s
  | [], _ => s_pos F
  | x :: _, hp => xlt (hp x (List.mem_cons_self ..)) (mul_lt h _ ha)
/-- Values of a product. -/
theorem evF_ml {a : Nat} (ha : a < F.s) {d : Nat} {f : Nat → Nat} (hb : Bd F f) (hf : ∀ n, d ≤ n → f n = 0) : ∀ {p : List Nat}, Ls F p → evF F a (d + p.length) (ml F p f) = mul F (evl F a p) (evF F a d f)
  | [], _ => by
    have e : evF F a (d + 0) zr = 0 := evF_zero a _ (fun _ => rfl)
    show evF F a (d + 0) zr = mul F 0 _
    rw [e, zero_mul]
  | x :: p, hp => by
    have hp' : Ls F p := fun y hy => hp y (List.mem_cons_of_mem _ hy)
    have hx := hp x (List.mem_cons_self ..)
    have ih := evF_ml ha hb hf hp'
    have hE := evF_lt h ha d hb
    have hL := evl_lt h ha hp'
    show evF F a (d + (p.length + 1)) (ad (sc F x f) (sh (ml F p f))) = mul F (x ^^^ mul F a (evl F a p)) (evF F a d f)
    rw [← Nat.add_assoc, evF_ad h ha _ (Bd.sc h hx) (ml_lt h hp').sh, evF_sh, ih, evF_sc h ha hx _ hb, evF_to a hf (by omega), xor_mul h _ hx (mul_lt h _ ha), mul_assoc h ha hL hE]
theorem evF_snoc {a : Nat} (ha : a < F.s) : ∀ (d : Nat) {f : Nat → Nat}, Bd F f → evF F a (d + 1) f = evF F a d f ^^^ mul F (f d) (pk F a d)
  | 0, f, hf => by
    show f 0 ^^^ mul F a 0 = 0 ^^^ mul F (f 0) 1
    rw [mul_zero, mul_one h (hf 0), Nat.xor_zero, Nat.zero_xor]
  | d + 1, f, hf => by
    have ih := evF_snoc ha d hf.sl
    have hE := evF_lt h ha d hf.sl
    have hp := pk_lt h ha d
    show f 0 ^^^ mul F a (evF F a (d + 1) (sl f)) = (f 0 ^^^ mul F a (evF F a d (sl f))) ^^^ mul F (f (d + 1)) (mul F a (pk F a d))
    rw [ih]
    show f 0 ^^^ mul F a (evF F a d (sl f) ^^^ mul F (f (d + 1)) (pk F a d)) = _
    rw [mul_xor h ha hE (mul_lt h _ (hf (d + 1))), Nat.xor_assoc]
    congr 2
    rw [← mul_assoc h ha (hf (d + 1)) hp, mul_comm h ha (hf (d + 1)), mul_assoc h (hf (d + 1)) ha hp]
theorem Bd.dvX {X : Nat} (hX : X < F.s) {f : Nat → Nat} (hf : Bd F f) : Bd F (dvX F X f)
  | 0 => hf 0
  | n + 1 => xlt (hf (n + 1)) (mul_lt h _ hX)
theorem ml_dvX {X : Nat} (hX : X < F.s) {f : Nat → Nat} (hf : Bd F f) : ml F [1, X] (dvX F X f) = f := by
  have hb := Bd.dvX h hX hf
  funext n
  cases n with
  | zero =>
    show mul F 1 (f 0) ^^^ 0 = f 0
    rw [one_mul h (hf 0), Nat.xor_zero]
  | succ n =>
    show mul F 1 (f (n + 1) ^^^ mul F X (dvX F X f n)) ^^^ (mul F X (dvX F X f n) ^^^ sh zr n) = f (n + 1)
    rw [one_mul h (xlt (hf (n + 1)) (mul_lt h _ hX)), sh_zr]
    show (f (n + 1) ^^^ mul F X (dvX F X f n)) ^^^ (mul F X (dvX F X f n) ^^^ 0) = _
    rw [Nat.xor_zero, Nat.xor_assoc, Nat.xor_self, Nat.xor_zero]
theorem dvX_ml {X : Nat} (_hX : X < F.s) {f : Nat → Nat} (hf : Bd F f) : dvX F X (ml F [1, X] f) = f := by
  funext n
  induction n with
  | zero =>
    show mul F 1 (f 0) ^^^ 0 = f 0
    rw [one_mul h (hf 0), Nat.xor_zero]
  | succ n ih =>
    show ml F [1, X] f (n + 1) ^^^ mul F X (dvX F X (ml F [1, X] f) n) = f (n + 1)
    rw [ih]
    show (mul F 1 (f (n + 1)) ^^^ (mul F X (f n) ^^^ sh zr n)) ^^^ mul F X (f n) = f (n + 1)
    rw [one_mul h (hf (n + 1)), sh_zr]
    show (f (n + 1) ^^^ (mul F X (f n) ^^^ 0)) ^^^ mul F X (f n) = _
    rw [Nat.xor_zero, Nat.xor_assoc, Nat.xor_self, Nat.xor_zero]
theorem dvX_pk {X a : Nat} (hX : X < F.s) (ha : a < F.s) (hXa : mul F X a = 1) {f : Nat → Nat} (hf : Bd F f) : ∀ n, dvX F X f n = mul F (pk F X n) (evF F a (n + 1) f)
  | 0 => by
    show f 0 = mul F 1 (f 0 ^^^ mul F a 0)
    rw [mul_zero, Nat.xor_zero, one_mul h (hf 0)]
  | n + 1 => by
    have ih := dvX_pk hX ha hXa hf n
    have hE := evF_lt h ha (n + 1) hf
    have hpX := pk_lt h hX n
    have hpa := pk_lt h ha (n + 1)
    -- powers of X and of its inverse
    have hpp : ∀ k, mul F (pk F X k) (pk F a k) = 1 := by
      intro k
      induction k with
      | zero => exact one_mul h (pk_lt h ha 0)
      | succ k ihk =>
        have h1 := pk_lt h hX k
        have h2 := pk_lt h ha k
        show mul F (mul F X (pk F X k)) (mul F a (pk F a k)) = 1
        rw [mul_assoc h hX h1 (mul_lt h _ ha), ← mul_assoc h h1 ha h2, mul_comm h h1 ha, mul_assoc h ha h1 h2, ihk, mul_one h ha, hXa]
    show f (n + 1) ^^^ mul F X (dvX F X f n) = mul F (mul F X (pk F X n)) (evF F a (n + 2) f)
    rw [ih, evF_snoc h ha (n + 1) hf, mul_xor h (mul_lt h _ hX) hE (mul_lt h _ (hf (n + 1))), mul_assoc h hX hpX hE]
    have e : mul F (mul F X (pk F X n)) (mul F (f (n + 1)) (pk F a (n + 1))) = f (n + 1) := by
      have h3 : mul F X (pk F X n) < F.s := mul_lt h _ hX
      rw [mul_comm h (hf (n + 1)) hpa, ← mul_assoc h h3 hpa (hf (n + 1))]
      have h4 : mul F (mul F X (pk F X n)) (pk F a (n + 1)) = 1 := hpp (n + 1)
      rw [h4, one_mul h (hf (n + 1))]
    rw [e, Nat.xor_comm]
/-- At a root the division ends. -/
theorem dvX_end {X a : Nat} (hX : X < F.s) (ha : a < F.s) (hXa : mul F X a = 1) {f : Nat → Nat} (hf : Bd F f) {d : Nat} (hd : ∀ n, d + 1 ≤ n → f n = 0) (hr : evF F a (d + 1) f = 0) : ∀ n, d ≤ n → dvX F X f n = 0 := by
  intro n hn
  rw [dvX_pk h hX ha hXa hf n, evF_to a hd (by omega), hr, mul_zero]

/-! ### Several factors -/
def opL (F : Fd) : List Nat → (Nat → Nat) → Nat → Nat
  | [], f => f
  | X :: Xs, f => ml F [1, X] (opL F Xs f)
omit h in
theorem l1 {X : Nat} (h : Ok F) (hX : X < F.s) : Ls F [1, X] := fun x hx => by
  have := s_ge4 h
  simp at hx
  rcases hx with rfl | rfl
  · omega
  · exact hX
theorem opL_lt : ∀ {Xs : List Nat}, Ls F Xs → ∀ {f : Nat → Nat}, Bd F f → Bd F (opL F Xs f)
  | [], _, _, hf => hf
  | X :: _, hX, _, _ => ml_lt h (l1 h (hX X (List.mem_cons_self ..)))
theorem opL_ml {p : List Nat} (hp : Ls F p) : ∀ {Xs : List Nat}, Ls F Xs → ∀ {f : Nat → Nat}, Bd F f → ml F p (opL F Xs f) = opL F Xs (ml F p f)
  | [], _, _, _ => rfl
  | X :: Xs, hX, f, hf => by
    have hX' : Ls F Xs := fun y hy => hX y (List.mem_cons_of_mem _ hy)
    show ml F p (ml F [1, X] (opL F Xs f)) = ml F [1, X] (opL F Xs (ml F p f))
    rw [ml_comm h hp (l1 h (hX X (List.mem_cons_self ..))) (opL_lt h hX' hf), opL_ml hp hX' hf]
theorem opL_ad : ∀ {Xs : List Nat}, Ls F Xs → ∀ {f g : Nat → Nat}, Bd F f → Bd F g → opL F Xs (ad f g) = ad (opL F Xs f) (opL F Xs g)
  | [], _, _, _, _, _ => rfl
  | X :: Xs, hX, f, g, hf, hg => by
    have hX' : Ls F Xs := fun y hy => hX y (List.mem_cons_of_mem _ hy)
    show ml F [1, X] (opL F Xs (ad f g)) = _
    rw [opL_ad hX' hf hg, ml_ad h (l1 h (hX X (List.mem_cons_self ..))) (opL_lt h hX' hf) (opL_lt h hX' hg)]
    rfl
theorem opL_sc {c : Nat} (hc : c < F.s) : ∀ {Xs : List Nat}, Ls F Xs → ∀ {f : Nat → Nat}, Bd F f → opL F Xs (sc F c f) = sc F c (opL F Xs f)
  | [], _, _, _ => rfl
  | X :: Xs, hX, f, hf => by
    have hX' : Ls F Xs := fun y hy => hX y (List.mem_cons_of_mem _ hy)
    show ml F [1, X] (opL F Xs (sc F c f)) = _
    rw [opL_sc hc hX' hf, ml_sc h hc (l1 h (hX X (List.mem_cons_self ..))) (opL_lt h hX' hf)]
    rfl
omit h in
theorem opL_below {N : Nat} {f g : Nat → Nat} (he : ∀ n, n < N → f n = g n) : ∀ (Xs : List Nat) (n : Nat), n < N → opL F Xs f n = opL F Xs g n
  | [], n, hn => he n hn
  | X :: Xs, n, hn => ml_below (opL_below he Xs) [1, X] n hn
omit h in
theorem opL_supp {d : Nat} {f : Nat → Nat} (hf : ∀ n, d ≤ n → f n = 0) : ∀ (Xs : List Nat) (n : Nat), d + Xs.length ≤ n → opL F Xs f n = 0
  | [], n, hn => hf n hn
  | X :: Xs, n, hn => by
    rw [List.length_cons] at hn
    exact ml_supp (opL_supp hf Xs) [1, X] n (by simp; omega)
theorem opL_inj : ∀ {Xs : List Nat}, Ls F Xs → ∀ {f g : Nat → Nat}, Bd F f → Bd F g → opL F Xs f = opL F Xs g → f = g
  | [], _, _, _, _, _, he => he
  | X :: Xs, hX, f, g, hf, hg, he => by
    have hX' : Ls F Xs := fun y hy => hX y (List.mem_cons_of_mem _ hy)
    have hx := hX X (List.mem_cons_self ..)
    have e := congrArg (dvX F X) (show ml F [1, X] (opL F Xs f) = ml F [1, X] (opL F Xs g) from he)
    rw [dvX_ml h hx (opL_lt h hX' hf), dvX_ml h hx (opL_lt h hX' hg)] at e
    exact opL_inj hX' hf hg e
/-- The product of the factors' values. -/
def prX (F : Fd) (a : Nat) : List Nat → Nat
  | [] => 1
  | X :: Xs => mul F (1 ^^^ mul F a X) (prX F a Xs)
theorem prX_lt (a : Nat) (ha : a < F.s) : ∀ (Xs : List Nat), prX F a Xs < F.s
  | [] => by have := s_ge4 h; show 1 < F.s; omega
  | X :: Xs => mul_lt h _ (xlt (by have := s_ge4 h; omega) (mul_lt h _ ha))
theorem evF_opL {a : Nat} (ha : a < F.s) : ∀ {Xs : List Nat}, Ls F Xs → ∀ {d : Nat} {f : Nat → Nat}, Bd F f → (∀ n, d ≤ n → f n = 0) → evF F a (d + Xs.length) (opL F Xs f) = mul F (prX F a Xs) (evF F a d f)
  | [], _, d, f, hf, _ => (one_mul h (evF_lt h ha d hf)).symm
  | X :: Xs, hX, d, f, hf, hd => by
    have hX' : Ls F Xs := fun y hy => hX y (List.mem_cons_of_mem _ hy)
    have hx := hX X (List.mem_cons_self ..)
    have ih := evF_opL ha hX' hf hd
    have hsup := opL_supp (F := F) hd Xs
    have e1 := evF_ml h ha (opL_lt h hX' hf) hsup (l1 h hx)
    have e2 : evF F a (d + Xs.length + 2) (ml F [1, X] (opL F Xs f)) = evF F a (d + (Xs.length + 1)) (ml F [1, X] (opL F Xs f)) :=
      evF_to a (d := d + (Xs.length + 1)) (fun n hn => ml_supp hsup [1, X] n (by simp; omega)) (by omega)
    show evF F a (d + (Xs.length + 1)) (ml F [1, X] (opL F Xs f)) = mul F (mul F (1 ^^^ mul F a X) (prX F a Xs)) (evF F a d f)
    rw [← e2]
    have e3 : evF F a (d + Xs.length + [1, X].length) (ml F [1, X] (opL F Xs f)) = evF F a (d + Xs.length + 2) (ml F [1, X] (opL F Xs f)) := rfl
    rw [← e3, e1, ih]
    have e4 : evl F a [1, X] = 1 ^^^ mul F a X := by
      show 1 ^^^ mul F a (X ^^^ mul F a 0) = _
      rw [mul_zero, Nat.xor_zero]
    rw [e4, mul_assoc h (xlt (by have := s_ge4 h; omega) (mul_lt h _ ha)) (prX_lt h a ha Xs) (evF_lt h ha d hf)]
omit h in
theorem xor_one_ne {a X : Nat} (hne : mul F a X ≠ 1) : 0 < 1 ^^^ mul F a X := by
  rcases Nat.eq_zero_or_pos (1 ^^^ mul F a X) with h1 | h1
  · exfalso
    apply hne
    have := congrArg (1 ^^^ ·) h1
    simp only [x3, Nat.xor_zero] at this
    exact this
  · exact h1
theorem prX_pos {a : Nat} (ha : a < F.s) : ∀ {Xs : List Nat}, (∀ X ∈ Xs, mul F a X ≠ 1) → 0 < prX F a Xs
  | [], _ => Nat.one_pos
  | X :: Xs, hne => mul_pos h (xor_one_ne (hne X (List.mem_cons_self ..))) (xlt (by have := s_ge4 h; omega) (mul_lt h _ ha)) (prX_pos ha (fun Y hY => hne Y (List.mem_cons_of_mem _ hY))) (prX_lt h a ha Xs)
omit h in
theorem prX_zero {a : Nat} : ∀ {Xs : List Nat} (X : Nat), X ∈ Xs → mul F a X = 1 → prX F a Xs = 0
  | Y :: Ys, X, hX, he => by
    rcases List.mem_cons.1 hX with rfl | hX
    · show mul F (1 ^^^ mul F a X) _ = 0
      rw [he, Nat.xor_self, zero_mul]
    · show mul F _ (prX F a Ys) = 0
      rw [prX_zero X hX he, mul_zero]
theorem inv_mul {X : Nat} (h0 : 0 < X) (hX : X < F.s) : mul F (inv F X) X = 1 := by
  rw [mul_comm h (inv_lt h X) hX]; exact mul_inv h h0 hX
theorem inv_ne {X Y : Nat} (hX0 : 0 < X) (hX : X < F.s) (_hY0 : 0 < Y) (hY : Y < F.s) (hne : X ≠ Y) : mul F (inv F X) Y ≠ 1 := by
  intro he
  have e1 := inv_uniq h (inv_pos h X) (inv_lt h X) hY he
  have e2 := inv_uniq h (inv_pos h X) (inv_lt h X) hX (inv_mul h hX0 hX)
  exact hne (e2.trans e1.symm)
/-- A finite series with such roots is a multiple of the factors. -/
theorem factor : ∀ {Xs : List Nat}, Ls F Xs → (∀ X ∈ Xs, 0 < X) → Xs.Nodup → ∀ {f : Nat → Nat} {d : Nat}, Bd F f → (∀ n, d ≤ n → f n = 0) → (∀ X ∈ Xs, evF F (inv F X) d f = 0) → Xs.length ≤ d → ∃ g, Bd F g ∧ (∀ n, d - Xs.length ≤ n → g n = 0) ∧ opL F Xs g = f
  | [], _, _, _, f, d, hf, hd, _, _ => ⟨f, hf, hd, rfl⟩
  | X :: Xs, hX, h0, hnd, f, d, hf, hd, hr, hl => by
    have hX' : Ls F Xs := fun y hy => hX y (List.mem_cons_of_mem _ hy)
    have hx := hX X (List.mem_cons_self ..)
    have hx0 := h0 X (List.mem_cons_self ..)
    rw [List.length_cons] at hl
    obtain ⟨e, rfl⟩ : ∃ e, d = e + 1 := ⟨d - 1, by omega⟩
    have hg0 := Bd.dvX h hx hf
    have hend := dvX_end h hx (inv_lt h X) (mul_inv h hx0 hx) hf hd (hr X (List.mem_cons_self ..))
    have hfe := ml_dvX h hx hf
    have hr' : ∀ Y ∈ Xs, evF F (inv F Y) e (dvX F X f) = 0 := fun Y hY => by
      have hy := hX Y (List.mem_cons_of_mem _ hY)
      have hy0 := h0 Y (List.mem_cons_of_mem _ hY)
      have hyi := inv_lt h Y
      have e1 := evF_ml h hyi hg0 hend (l1 h hx)
      rw [hfe] at e1
      have e2 := hr Y (List.mem_cons_of_mem _ hY)
      have e3 : evF F (inv F Y) (e + [1, X].length) f = evF F (inv F Y) (e + 1) f := evF_to _ hd (by simp)
      rw [e3, e2] at e1
      have hne : Y ≠ X := fun he => by
        rw [List.nodup_cons] at hnd
        exact hnd.1 (he ▸ hY)
      have e4 : evl F (inv F Y) [1, X] = 1 ^^^ mul F (inv F Y) X := by
        show 1 ^^^ mul F (inv F Y) (X ^^^ mul F (inv F Y) 0) = _
        rw [mul_zero, Nat.xor_zero]
      rw [e4] at e1
      have hpos := xor_one_ne (inv_ne h hy0 hy hx0 hx hne)
      rcases Nat.eq_zero_or_pos (evF F (inv F Y) e (dvX F X f)) with h5 | h5
      · exact h5
      · have := mul_pos h hpos (xlt (by have := s_ge4 h; omega) (mul_lt h _ hyi)) h5 (evF_lt h hyi e hg0)
        omega
    obtain ⟨g, hg1, hg2, hg3⟩ := factor hX' (fun Y hY => h0 Y (List.mem_cons_of_mem _ hY)) (List.nodup_cons.1 hnd).2 hg0 hend hr' (by omega)
    refine ⟨g, hg1, fun n hn => hg2 n (by rw [List.length_cons] at hn; omega), ?_⟩
    show ml F [1, X] (opL F Xs g) = f
    rw [hg3, hfe]
end
end Go.Proofs.Ytibdeekgcbmofaa.Gf
