/-
  PLAIN: power series over a field as functions; a list of coefficients (the lowest first) acts on them; values; division by 1 + X x. PLAIN: values of finite series; division by factors 1 + X x. PLAIN: the series that errors make; what the algorithm of Euclid ends with. PLAIN: the algorithm of Euclid: what stays, and what it ends with.
-/
import Derived.Test.YtopfdmmimgnciaaGreatDoorV07
namespace Go.Proofs.YtopfdmmimgnciaaGreatDoor.Gf

def Bd (F : Fd) (f : Nat → Nat) : Prop := ∀ n, f n < F.s
def Ls (F : Fd) (p : List Nat) : Prop := ∀ x ∈ p, x < F.s
def ad (f g : Nat → Nat) : Nat → Nat := fun n => f n ^^^ g n
def sc (F : Fd) (a : Nat) (f : Nat → Nat) : Nat → Nat := fun n => mul F a (f n)
def sh (f : Nat → Nat) : Nat → Nat
  | 0 => 0
  | n + 1 => f n
def zr : Nat → Nat := fun _ => 0
/-- The product of a list and a series. -/
def ml (F : Fd) : List Nat → (Nat → Nat) → Nat → Nat
  | [], _ => zr
  | a :: p, f => ad (sc F a f) (sh (ml F p f))
def dl : Nat → Nat
  | 0 => 1
  | _ + 1 => 0
def co (p : List Nat) : Nat → Nat := fun n => p.getD n 0

theorem xlt {F : Fd} {a b : Nat} (ha : a < F.s) (hb : b < F.s) : a ^^^ b < F.s := Nat.xor_lt_two_pow ha hb
theorem x4 (a b c d : Nat) : (a ^^^ b) ^^^ (c ^^^ d) = (a ^^^ c) ^^^ (b ^^^ d) := by
  rw [Nat.xor_assoc, Nat.xor_assoc]; congr 1
  rw [← Nat.xor_assoc, ← Nat.xor_assoc, Nat.xor_comm b c]
theorem x3 (a b : Nat) : a ^^^ (a ^^^ b) = b := by rw [← Nat.xor_assoc, Nat.xor_self, Nat.zero_xor]
theorem ad_comm (f g : Nat → Nat) : ad f g = ad g f := funext fun _ => Nat.xor_comm _ _
theorem ad_assoc (f g k : Nat → Nat) : ad (ad f g) k = ad f (ad g k) := funext fun _ => Nat.xor_assoc _ _ _
theorem ad_self (f : Nat → Nat) : ad f f = zr := funext fun _ => Nat.xor_self _
theorem ad_zr (f : Nat → Nat) : ad f zr = f := funext fun _ => Nat.xor_zero _
theorem zr_ad (f : Nat → Nat) : ad zr f = f := funext fun _ => Nat.zero_xor _
theorem ad4 (a b c d : Nat → Nat) : ad (ad a b) (ad c d) = ad (ad a c) (ad b d) := funext fun _ => x4 _ _ _ _
theorem ad_move {f g k : Nat → Nat} (h : f = ad g k) : k = ad f g := by
  rw [h]; funext n; show k n = (g n ^^^ k n) ^^^ g n
  rw [Nat.xor_comm (g n) (k n), Nat.xor_assoc, Nat.xor_self, Nat.xor_zero]
theorem sh_ad (f g : Nat → Nat) : sh (ad f g) = ad (sh f) (sh g) := by
  funext n; cases n with
  | zero => exact (Nat.xor_self 0).symm
  | succ n => rfl
theorem sh_zr : sh zr = zr := by
  funext n; cases n with
  | zero => rfl
  | succ n => rfl
theorem Bd.ad {F : Fd} {f g : Nat → Nat} (hf : Bd F f) (hg : Bd F g) : Bd F (ad f g) := fun n => xlt (hf n) (hg n)
theorem Bd.sh {F : Fd} {f : Nat → Nat} (hf : Bd F f) : Bd F (sh f) := fun n => by
  cases n with
  | zero => exact s_pos F
  | succ n => exact hf n
theorem Bd.zr (F : Fd) : Bd F zr := fun _ => s_pos F
theorem Bd.dl {F : Fd} (h : Ok F) : Bd F dl := fun n => by
  have := s_ge4 h
  cases n with
  | zero => show 1 < F.s; omega
  | succ n => exact s_pos F
theorem Ls.co {F : Fd} {p : List Nat} (h : Ls F p) : Bd F (co p) := fun n => by
  show p.getD n 0 < F.s
  rw [List.getD]
  cases hn : p[n]? with
  | none => exact s_pos F
  | some x => exact h x (List.mem_of_getElem? hn)
section
variable {F : Fd} (h : Ok F)
include h
theorem Bd.sc {f : Nat → Nat} {a : Nat} (ha : a < F.s) : Bd F (sc F a f) := fun _ => mul_lt h _ ha
theorem ml_lt : ∀ {p : List Nat}, Ls F p → ∀ {f : Nat → Nat}, Bd F (ml F p f)
  | [], _, _ => Bd.zr F
  | a :: _p, hp, _ => (Bd.sc h (hp a (List.mem_cons_self ..))).ad (ml_lt (fun x hx => hp x (List.mem_cons_of_mem _ hx))).sh
theorem ml_ad : ∀ {p : List Nat}, Ls F p → ∀ {f g : Nat → Nat}, Bd F f → Bd F g → ml F p (ad f g) = ad (ml F p f) (ml F p g)
  | [], _, _, _, _, _ => (ad_zr zr).symm
  | a :: p, hp, f, g, hf, hg => by
    have ih := ml_ad (p := p) (fun x hx => hp x (List.mem_cons_of_mem _ hx)) hf hg
    have ha := hp a (List.mem_cons_self ..)
    have e : sc F a (ad f g) = ad (sc F a f) (sc F a g) := funext fun n => mul_xor h ha (hf n) (hg n)
    show ad (sc F a (ad f g)) (sh (ml F p (ad f g))) = ad (ad (sc F a f) (sh (ml F p f))) (ad (sc F a g) (sh (ml F p g)))
    rw [ih, sh_ad, e, ad4]
theorem ml_sc {c : Nat} (hc : c < F.s) : ∀ {p : List Nat}, Ls F p → ∀ {f : Nat → Nat}, Bd F f → ml F p (sc F c f) = sc F c (ml F p f)
  | [], _, _, _ => funext fun _ => (mul_zero F c).symm
  | a :: p, hp, f, hf => by
    have hp' : Ls F p := fun x hx => hp x (List.mem_cons_of_mem _ hx)
    have ih := ml_sc hc hp' hf
    have ha := hp a (List.mem_cons_self ..)
    show ad (sc F a (sc F c f)) (sh (ml F p (sc F c f))) = sc F c (ad (sc F a f) (sh (ml F p f)))
    rw [ih]
    funext n
    show mul F a (mul F c (f n)) ^^^ sh (sc F c (ml F p f)) n = mul F c (mul F a (f n) ^^^ sh (ml F p f) n)
    have e1 : sh (sc F c (ml F p f)) n = mul F c (sh (ml F p f) n) := by
      cases n with
      | zero => exact (mul_zero F c).symm
      | succ n => rfl
    rw [e1, mul_xor h hc (mul_lt h _ ha) ((ml_lt h hp').sh n), ← mul_assoc h ha hc (hf n), mul_comm h ha hc, mul_assoc h hc ha (hf n)]
omit h in
theorem ml_sh : ∀ {p : List Nat}, Ls F p → ∀ {f : Nat → Nat}, ml F p (sh f) = sh (ml F p f)
  | [], _, _ => sh_zr.symm
  | a :: p, hp, f => by
    have ih := ml_sh (p := p) (fun x hx => hp x (List.mem_cons_of_mem _ hx)) (f := f)
    show ad (sc F a (sh f)) (sh (ml F p (sh f))) = sh (ad (sc F a f) (sh (ml F p f)))
    rw [ih]
    funext n
    cases n with
    | zero => show mul F a 0 ^^^ 0 = 0; rw [mul_zero]; rfl
    | succ n => rfl
theorem ml_comm : ∀ {p : List Nat}, Ls F p → ∀ {q : List Nat}, Ls F q → ∀ {f : Nat → Nat}, Bd F f → ml F p (ml F q f) = ml F q (ml F p f)
  | [], _, _, hq, _, _ => by
    show zr = ml F _ zr
    have e := ml_sc h (s_pos F) hq (Bd.zr F)
    have e2 : sc F 0 zr = zr := funext fun _ => mul_zero F 0
    rw [e2] at e
    rw [e]
    exact (funext fun _ => (zero_mul F _).symm)
  | a :: p, hp, q, hq, f, hf => by
    have hp' : Ls F p := fun x hx => hp x (List.mem_cons_of_mem _ hx)
    have ha := hp a (List.mem_cons_self ..)
    have ih := ml_comm hp' hq hf
    show ad (sc F a (ml F q f)) (sh (ml F p (ml F q f))) = ml F q (ad (sc F a f) (sh (ml F p f)))
    rw [ml_ad h hq (Bd.sc h ha) (ml_lt h hp').sh, ml_sc h ha hq hf, ml_sh hq, ih]
theorem ml_zr {p : List Nat} (hp : Ls F p) : ml F p zr = zr := by
  have := ml_comm h (p := []) (fun x hx => by cases hx) hp (Bd.zr F)
  exact this.symm
theorem ml_dl : ∀ {p : List Nat}, Ls F p → ml F p dl = co p
  | [], _ => rfl
  | a :: p, hp => by
    have ih := ml_dl (p := p) (fun x hx => hp x (List.mem_cons_of_mem _ hx))
    have ha := hp a (List.mem_cons_self ..)
    funext n
    show mul F a (dl n) ^^^ sh (ml F p dl) n = _
    rw [ih]
    cases n with
    | zero => show mul F a 1 ^^^ 0 = a; rw [mul_one h ha, Nat.xor_zero]
    | succ n => show mul F a 0 ^^^ co p n = co (a :: p) (n + 1); rw [mul_zero, Nat.zero_xor]; rfl
theorem ml_co {p q : List Nat} (hp : Ls F p) (hq : Ls F q) : ml F p (co q) = ml F q (co p) := by
  rw [← ml_dl h hq, ml_comm h hp hq (Bd.dl h), ml_dl h hp]
omit h in
theorem ml_supp {d : Nat} {f : Nat → Nat} (hf : ∀ n, d ≤ n → f n = 0) : ∀ (p : List Nat) (n : Nat), d + p.length ≤ n + 1 → ml F p f n = 0
  | [], _, _ => rfl
  | a :: p, n, hn => by
    rw [List.length_cons] at hn
    show mul F a (f n) ^^^ sh (ml F p f) n = 0
    rw [hf n (by omega), mul_zero, Nat.zero_xor]
    cases n with
    | zero => rfl
    | succ n => exact ml_supp hf p n (by omega)
end
end Go.Proofs.YtopfdmmimgnciaaGreatDoor.Gf
namespace Go.Proofs.YtopfdmmimgnciaaGreatDoor.Gf

def sl (f : Nat → Nat) : Nat → Nat := fun n => f (n + 1)
/-- The value at a of the first d coefficients. -/
def evF (F : Fd) (a : Nat) : Nat → (Nat → Nat) → Nat
  | 0, _ => 0
  | d + 1, f => f 0 ^^^ mul F a (evF F a d (sl f))
def evl (F : Fd) (a : Nat) : List Nat → Nat
  | [] => 0
  | x :: p => x ^^^ mul F a (evl F a p)
def pk (F : Fd) (a : Nat) : Nat → Nat
  | 0 => 1
  | n + 1 => mul F a (pk F a n)
def dvX (F : Fd) (X : Nat) (f : Nat → Nat) : Nat → Nat
  | 0 => f 0
  | n + 1 => f (n + 1) ^^^ mul F X (dvX F X f n)
theorem Bd.sl {F : Fd} {f : Nat → Nat} (hf : Bd F f) : Bd F (sl f) := fun n => hf (n + 1)
theorem sl_sh (f : Nat → Nat) : sl (sh f) = f := rfl
theorem sl_ad (f g : Nat → Nat) : sl (ad f g) = ad (sl f) (sl g) := rfl
theorem sl_sc (F : Fd) (c : Nat) (f : Nat → Nat) : sl (sc F c f) = sc F c (sl f) := rfl
section
variable {F : Fd} (h : Ok F)
include h
theorem pk_lt {a : Nat} (ha : a < F.s) : ∀ n, pk F a n < F.s
  | 0 => by have := s_ge4 h; show 1 < F.s; omega
  | _ + 1 => mul_lt h _ ha
theorem evF_lt {a : Nat} (ha : a < F.s) : ∀ (d : Nat) {f : Nat → Nat}, Bd F f → evF F a d f < F.s
  | 0, _, _ => s_pos F
  | _ + 1, _, hf => xlt (hf 0) (mul_lt h _ ha)
theorem evF_ad {a : Nat} (ha : a < F.s) : ∀ (d : Nat) {f g : Nat → Nat}, Bd F f → Bd F g → evF F a d (ad f g) = evF F a d f ^^^ evF F a d g
  | 0, _, _, _, _ => (Nat.xor_self 0).symm
  | d + 1, f, g, hf, hg => by
    have ih := evF_ad ha d hf.sl hg.sl
    show (f 0 ^^^ g 0) ^^^ mul F a (evF F a d (sl (ad f g))) = (f 0 ^^^ mul F a (evF F a d (sl f))) ^^^ (g 0 ^^^ mul F a (evF F a d (sl g)))
    rw [sl_ad, ih, mul_xor h ha (evF_lt h ha d hf.sl) (evF_lt h ha d hg.sl), x4]
theorem evF_sc {a c : Nat} (ha : a < F.s) (hc : c < F.s) : ∀ (d : Nat) {f : Nat → Nat}, Bd F f → evF F a d (sc F c f) = mul F c (evF F a d f)
  | 0, _, _ => (mul_zero F c).symm
  | d + 1, f, hf => by
    have ih := evF_sc ha hc d hf.sl
    have hE := evF_lt h ha d hf.sl
    show mul F c (f 0) ^^^ mul F a (evF F a d (sl (sc F c f))) = mul F c (f 0 ^^^ mul F a (evF F a d (sl f)))
    rw [sl_sc, ih, mul_xor h hc (hf 0) (mul_lt h _ ha), ← mul_assoc h ha hc hE, mul_comm h ha hc, mul_assoc h hc ha hE]
omit h in
theorem evF_sh (a d : Nat) (f : Nat → Nat) : evF F a (d + 1) (sh f) = mul F a (evF F a d f) := by
  show 0 ^^^ mul F a (evF F a d (sl (sh f))) = _
  rw [Nat.zero_xor, sl_sh]
omit h in
theorem evF_zero (a : Nat) : ∀ (d : Nat) {f : Nat → Nat}, (∀ n, f n = 0) → evF F a d f = 0
  | 0, _, _ => rfl
  | d + 1, f, hf => by
    have e : evF F a d (sl f) = 0 := evF_zero a d (fun n => hf (n + 1))
    show f 0 ^^^ mul F a (evF F a d (sl f)) = 0
    rw [hf 0, e, mul_zero]; rfl
omit h in
theorem evF_more (a k : Nat) : ∀ (d : Nat) {f : Nat → Nat}, (∀ n, d ≤ n → f n = 0) → evF F a (d + k) f = evF F a d f
  | 0, f, hf => by rw [evF_zero a _ (fun n => hf n (Nat.zero_le _))]; rfl
  | d + 1, f, hf => by
    have ih := evF_more a k d (f := sl f) (fun n hn => hf (n + 1) (by omega))
    rw [show d + 1 + k = (d + k) + 1 by omega]
    show f 0 ^^^ mul F a (evF F a (d + k) (sl f)) = f 0 ^^^ mul F a (evF F a d (sl f))
    rw [ih]
omit h in
theorem evF_to (a : Nat) {d e : Nat} {f : Nat → Nat} (hf : ∀ n, d ≤ n → f n = 0) (he : d ≤ e) : evF F a e f = evF F a d f := by
  have := evF_more (F := F) a (e - d) d hf
  rwa [show d + (e - d) = e by omega] at this
theorem evl_lt {a : Nat} (ha : a < F.s) : ∀ {p : List Nat}, Ls F p → evl F a p < F.s
  | [], _ => s_pos F
  | x :: _, hp => xlt (hp x (List.mem_cons_self ..)) (mul_lt h _ ha)
/-- Values of a product. -/
theorem evF_ml {a : Nat} (ha : a < F.s) {d : Nat} {f : Nat → Nat} (hb : Bd F f) (hf : ∀ n, d ≤ n → f n = 0) : ∀ {p : List Nat}, Ls F p → evF F a (d + p.length) (ml F p f) = mul F (evl F a p) (evF F a d f)
  | [], _ => by
    have e : evF F a (d + 0) zr = 0 := evF_zero a _ (fun _ => rfl)
    show evF F a (d + 0) zr = mul F 0 _
    rw [e, zero_mul]
  | x :: p, hp => by
    have hp' : Ls F p := fun y hy => hp y (List.mem_cons_of_mem _ hy)
    have hx := hp x (List.mem_cons_self ..)
    have ih := evF_ml ha hb hf hp'
    have hE := evF_lt h ha d hb
    have hL := evl_lt h ha hp'
    show evF F a (d + (p.length + 1)) (ad (sc F x f) (sh (ml F p f))) = mul F (x ^^^ mul F a (evl F a p)) (evF F a d f)
    rw [← Nat.add_assoc, evF_ad h ha _ (Bd.sc h hx) (ml_lt h hp').sh, evF_sh, ih, evF_sc h ha hx _ hb, evF_to a hf (by omega), xor_mul h _ hx (mul_lt h _ ha), mul_assoc h ha hL hE]
theorem evF_snoc {a : Nat} (ha : a < F.s) : ∀ (d : Nat) {f : Nat → Nat}, Bd F f → evF F a (d + 1) f = evF F a d f ^^^ mul F (f d) (pk F a d)
  | 0, f, hf => by
    show f 0 ^^^ mul F a 0 = 0 ^^^ mul F (f 0) 1
    rw [mul_zero, mul_one h (hf 0), Nat.xor_zero, Nat.zero_xor]
  | d + 1, f, hf => by
    have ih := evF_snoc ha d hf.sl
    have hE := evF_lt h ha d hf.sl
    have hp := pk_lt h ha d
    show f 0 ^^^ mul F a (evF F a (d + 1) (sl f)) = (f 0 ^^^ mul F a (evF F a d (sl f))) ^^^ mul F (f (d + 1)) (mul F a (pk F a d))
    rw [ih]
    show f 0 ^^^ mul F a (evF F a d (sl f) ^^^ mul F (f (d + 1)) (pk F a d)) = _
    rw [mul_xor h ha hE (mul_lt h _ (hf (d + 1))), Nat.xor_assoc]
    congr 2
    rw [← mul_assoc h ha (hf (d + 1)) hp, mul_comm h ha (hf (d + 1)), mul_assoc h (hf (d + 1)) ha hp]
theorem Bd.dvX {X : Nat} (hX : X < F.s) {f : Nat → Nat} (hf : Bd F f) : Bd F (dvX F X f)
  | 0 => hf 0
  | n + 1 => xlt (hf (n + 1)) (mul_lt h _ hX)
theorem ml_dvX {X : Nat} (hX : X < F.s) {f : Nat → Nat} (hf : Bd F f) : ml F [1, X] (dvX F X f) = f := by
  have hb := Bd.dvX h hX hf
  funext n
  cases n with
  | zero =>
    show mul F 1 (f 0) ^^^ 0 = f 0
    rw [one_mul h (hf 0), Nat.xor_zero]
  | succ n =>
    show mul F 1 (f (n + 1) ^^^ mul F X (dvX F X f n)) ^^^ (mul F X (dvX F X f n) ^^^ sh zr n) = f (n + 1)
    rw [one_mul h (xlt (hf (n + 1)) (mul_lt h _ hX)), sh_zr]
    show (f (n + 1) ^^^ mul F X (dvX F X f n)) ^^^ (mul F X (dvX F X f n) ^^^ 0) = _
    rw [Nat.xor_zero, Nat.xor_assoc, Nat.xor_self, Nat.xor_zero]
theorem dvX_pk {X a : Nat} (hX : X < F.s) (ha : a < F.s) (hXa : mul F X a = 1) {f : Nat → Nat} (hf : Bd F f) : ∀ n, dvX F X f n = mul F (pk F X n) (evF F a (n + 1) f)
  | 0 => by
    show f 0 = mul F 1 (f 0 ^^^ mul F a 0)
    rw [mul_zero, Nat.xor_zero, one_mul h (hf 0)]
  | n + 1 => by
    have ih := dvX_pk hX ha hXa hf n
    have hE := evF_lt h ha (n + 1) hf
    have hpX := pk_lt h hX n
    have hpa := pk_lt h ha (n + 1)
    -- powers of X and of its inverse
    have hpp : ∀ k, mul F (pk F X k) (pk F a k) = 1 := by
      intro k
      induction k with
      | zero => exact one_mul h (pk_lt h ha 0)
      | succ k ihk =>
        have h1 := pk_lt h hX k
        have h2 := pk_lt h ha k
        show mul F (mul F X (pk F X k)) (mul F a (pk F a k)) = 1
        rw [mul_assoc h hX h1 (mul_lt h _ ha), ← mul_assoc h h1 ha h2, mul_comm h h1 ha, mul_assoc h ha h1 h2, ihk, mul_one h ha, hXa]
    show f (n + 1) ^^^ mul F X (dvX F X f n) = mul F (mul F X (pk F X n)) (evF F a (n + 2) f)
    rw [ih, evF_snoc h ha (n + 1) hf, mul_xor h (mul_lt h _ hX) hE (mul_lt h _ (hf (n + 1))), mul_assoc h hX hpX hE]
    have e : mul F (mul F X (pk F X n)) (mul F (f (n + 1)) (pk F a (n + 1))) = f (n + 1) := by
      have h3 : mul F X (pk F X n) < F.s := mul_lt h _ hX
      rw [mul_comm h (hf (n + 1)) hpa, ← mul_assoc h h3 hpa (hf (n + 1))]
      have h4 : mul F (mul F X (pk F X n)) (pk F a (n + 1)) = 1 := hpp (n + 1)
      rw [h4, one_mul h (hf (n + 1))]
    rw [e, Nat.xor_comm]
/-- At a root the division ends. -/
theorem dvX_end {X a : Nat} (hX : X < F.s) (ha : a < F.s) (hXa : mul F X a = 1) {f : Nat → Nat} (hf : Bd F f) {d : Nat} (hd : ∀ n, d + 1 ≤ n → f n = 0) (hr : evF F a (d + 1) f = 0) : ∀ n, d ≤ n → dvX F X f n = 0 := by
  intro n hn
  rw [dvX_pk h hX ha hXa hf n, evF_to a hd (by omega), hr, mul_zero]

/-! ### Several factors -/
def opL (F : Fd) : List Nat → (Nat → Nat) → Nat → Nat
  | [], f => f
  | X :: Xs, f => ml F [1, X] (opL F Xs f)
omit h in
theorem l1 {X : Nat} (h : Ok F) (hX : X < F.s) : Ls F [1, X] := fun x hx => by
  have := s_ge4 h
  simp at hx
  rcases hx with rfl | rfl
  · omega
  · exact hX
omit h in
theorem xor_one_ne {a X : Nat} (hne : mul F a X ≠ 1) : 0 < 1 ^^^ mul F a X := by
  rcases Nat.eq_zero_or_pos (1 ^^^ mul F a X) with h1 | h1
  · exfalso
    apply hne
    have := congrArg (1 ^^^ ·) h1
    simp only [x3, Nat.xor_zero] at this
    exact this
  · exact h1
theorem inv_mul {X : Nat} (h0 : 0 < X) (hX : X < F.s) : mul F (inv F X) X = 1 := by
  rw [mul_comm h (inv_lt h X) hX]; exact mul_inv h h0 hX
theorem inv_ne {X Y : Nat} (hX0 : 0 < X) (hX : X < F.s) (_hY0 : 0 < Y) (hY : Y < F.s) (hne : X ≠ Y) : mul F (inv F X) Y ≠ 1 := by
  intro he
  have e1 := inv_uniq h (inv_pos h X) (inv_lt h X) hY he
  have e2 := inv_uniq h (inv_pos h X) (inv_lt h X) hX (inv_mul h hX0 hX)
  exact hne (e2.trans e1.symm)
/-- A finite series with such roots is a multiple of the factors. -/
theorem factor : ∀ {Xs : List Nat}, Ls F Xs → (∀ X ∈ Xs, 0 < X) → Xs.Nodup → ∀ {f : Nat → Nat} {d : Nat}, Bd F f → (∀ n, d ≤ n → f n = 0) → (∀ X ∈ Xs, evF F (inv F X) d f = 0) → Xs.length ≤ d → ∃ g, Bd F g ∧ (∀ n, d - Xs.length ≤ n → g n = 0) ∧ opL F Xs g = f
  | [], _, _, _, f, d, hf, hd, _, _ => ⟨f, hf, hd, rfl⟩
  | X :: Xs, hX, h0, hnd, f, d, hf, hd, hr, hl => by
    have hX' : Ls F Xs := fun y hy => hX y (List.mem_cons_of_mem _ hy)
    have hx := hX X (List.mem_cons_self ..)
    have hx0 := h0 X (List.mem_cons_self ..)
    rw [List.length_cons] at hl
    obtain ⟨e, rfl⟩ : ∃ e, d = e + 1 := ⟨d - 1, by omega⟩
    have hg0 := Bd.dvX h hx hf
    have hend := dvX_end h hx (inv_lt h X) (mul_inv h hx0 hx) hf hd (hr X (List.mem_cons_self ..))
    have hfe := ml_dvX h hx hf
    have hr' : ∀ Y ∈ Xs, evF F (inv F Y) e (dvX F X f) = 0 := fun Y hY => by
      have hy := hX Y (List.mem_cons_of_mem _ hY)
      have hy0 := h0 Y (List.mem_cons_of_mem _ hY)
      have hyi := inv_lt h Y
      have e1 := evF_ml h hyi hg0 hend (l1 h hx)
      rw [hfe] at e1
      have e2 := hr Y (List.mem_cons_of_mem _ hY)
      have e3 : evF F (inv F Y) (e + [1, X].length) f = evF F (inv F Y) (e + 1) f := evF_to _ hd (by simp)
      rw [e3, e2] at e1
      have hne : Y ≠ X := fun he => by
        rw [List.nodup_cons] at hnd
        exact hnd.1 (he ▸ hY)
      have e4 : evl F (inv F Y) [1, X] = 1 ^^^ mul F (inv F Y) X := by
        show 1 ^^^ mul F (inv F Y) (X ^^^ mul F (inv F Y) 0) = _
        rw [mul_zero, Nat.xor_zero]
      rw [e4] at e1
      have hpos := xor_one_ne (inv_ne h hy0 hy hx0 hx hne)
      rcases Nat.eq_zero_or_pos (evF F (inv F Y) e (dvX F X f)) with h5 | h5
      · exact h5
      · have := mul_pos h hpos (xlt (by have := s_ge4 h; omega) (mul_lt h _ hyi)) h5 (evF_lt h hyi e hg0)
        omega
    obtain ⟨g, hg1, hg2, hg3⟩ := factor hX' (fun Y hY => h0 Y (List.mem_cons_of_mem _ hY)) (List.nodup_cons.1 hnd).2 hg0 hend hr' (by omega)
    refine ⟨g, hg1, fun n hn => hg2 n (by rw [List.length_cons] at hn; omega), ?_⟩
    show ml F [1, X] (opL F Xs g) = f
    rw [hg3, hfe]
end
end Go.Proofs.YtopfdmmimgnciaaGreatDoor.Gf
namespace Go.Proofs.YtopfdmmimgnciaaGreatDoor.Gf

def shN : Nat → (Nat → Nat) → Nat → Nat
  | 0, f => f
  | n + 1, f => sh (shN n f)
theorem shN_at : ∀ (R : Nat) (f : Nat → Nat) (n : Nat), shN R f n = if n < R then 0 else f (n - R)
  | 0, f, n => by rw [if_neg (by omega)]; rfl
  | R + 1, f, 0 => by rw [if_pos (by omega)]; rfl
  | R + 1, f, n + 1 => by
    show shN R f n = _
    rw [shN_at R f n]
    by_cases hn : n < R
    · rw [if_pos hn, if_pos (by omega)]
    · rw [if_neg hn, if_neg (by omega)]
      congr 1; omega
theorem shN_ad : ∀ (R : Nat) (f g : Nat → Nat), shN R (ad f g) = ad (shN R f) (shN R g)
  | 0, _, _ => rfl
  | R + 1, f, g => by show sh (shN R (ad f g)) = _; rw [shN_ad R, sh_ad]; rfl
theorem Bd.shN {F : Fd} {f : Nat → Nat} (hf : Bd F f) : ∀ R, Bd F (shN R f)
  | 0 => hf
  | R + 1 => (Bd.shN hf R).sh
theorem ml_shN {F : Fd} {p : List Nat} (hp : Ls F p) : ∀ (R : Nat) (f : Nat → Nat), ml F p (shN R f) = shN R (ml F p f)
  | 0, _ => rfl
  | R + 1, f => by
    show ml F p (sh (shN R f)) = sh (shN R (ml F p f))
    rw [ml_sh hp, ml_shN hp R f]
/-- The list of a finite series. -/
def ofF (f : Nat → Nat) (d : Nat) : List Nat := (List.range d).map f
theorem ofF_ls {F : Fd} {f : Nat → Nat} (hf : Bd F f) (d : Nat) : Ls F (ofF f d) := fun x hx => by
  obtain ⟨i, _, rfl⟩ := List.mem_map.1 hx; exact hf i
theorem co_ofF {f : Nat → Nat} {d : Nat} (hd : ∀ n, d ≤ n → f n = 0) : co (ofF f d) = f := by
  funext n
  show ((List.range d).map f).getD n 0 = f n
  by_cases hn : n < d
  · rw [List.getD, List.getElem?_map, List.getElem?_range hn]; rfl
  · rw [List.getD, List.getElem?_eq_none (by simp; omega), hd n (by omega)]; rfl
theorem co_supp (p : List Nat) : ∀ n, p.length ≤ n → co p n = 0 := fun n hn => by
  show p.getD n 0 = 0
  rw [List.getD, List.getElem?_eq_none hn]; rfl

/-! ### Errors: their places X and what they add, Y -/
def lX (es : List (Nat × Nat)) : List Nat := es.map Prod.fst
structure Errs (F : Fd) (es : List (Nat × Nat)) : Prop where
  x0 : ∀ e ∈ es, 0 < e.1 ∧ e.1 < F.s
  y0 : ∀ e ∈ es, 0 < e.2 ∧ e.2 < F.s
  nd : (lX es).Nodup
theorem Errs.tail {F : Fd} {e : Nat × Nat} {es : List (Nat × Nat)} (h : Errs F (e :: es)) : Errs F es :=
  ⟨fun x hx => h.x0 x (List.mem_cons_of_mem _ hx), fun x hx => h.y0 x (List.mem_cons_of_mem _ hx), (List.nodup_cons.1 h.nd).2⟩
section
variable {F : Fd} (h : Ok F)
include h
/-- The product over the other places. -/
def prO (F : Fd) (a X : Nat) : List Nat → Nat
  | [] => 1
  | Z :: Zs => if Z = X then prO F a X Zs else mul F (1 ^^^ mul F a Z) (prO F a X Zs)
theorem prO_lt {a : Nat} (ha : a < F.s) (X : Nat) : ∀ (Zs : List Nat), prO F a X Zs < F.s
  | [] => by have := s_ge4 h; show 1 < F.s; omega
  | Z :: Zs => by
    show (if Z = X then _ else _) < F.s
    split
    · exact prO_lt ha X Zs
    · exact mul_lt h _ (xlt (by have := s_ge4 h; omega) (mul_lt h _ ha))
theorem prO_pos {a X : Nat} (ha : a < F.s) : ∀ (Zs : List Nat), (∀ Z ∈ Zs, Z ≠ X → mul F a Z ≠ 1) → 0 < prO F a X Zs
  | [], _ => Nat.one_pos
  | Z :: Zs, hz => by
    have ih := prO_pos ha Zs (fun Y hY => hz Y (List.mem_cons_of_mem _ hY))
    show 0 < (if Z = X then _ else _)
    split
    · exact ih
    · rename_i hne
      exact mul_pos h (xor_one_ne (hz Z (List.mem_cons_self ..) hne)) (xlt (by have := s_ge4 h; omega) (mul_lt h _ ha)) ih (prO_lt h ha X Zs)
end
end Go.Proofs.YtopfdmmimgnciaaGreatDoor.Gf
namespace Go.Proofs.YtopfdmmimgnciaaGreatDoor.Gf

structure EuI (F : Fd) (R : Nat) (Sl rL r tL t : List Nat) : Prop where
  lrL : Ls F rL
  lr : Ls F r
  ltL : Ls F tL
  lt : Ls F t
  ex : ∃ sL s : List Nat, Ls F sL ∧ Ls F s ∧ co r = ad (shN R (co s)) (ml F t (co Sl)) ∧ co rL = ad (shN R (co sL)) (ml F tL (co Sl)) ∧ ad (ml F s (co tL)) (ml F sL (co t)) = dl
section
variable {F : Fd} (h : Ok F)
include h
theorem euI_start {R : Nat} {Sl rL r tL t : List Nat} (hS : Ls F Sl) (hrL : Ls F rL) (hr : Ls F r) (htL : Ls F tL) (ht : Ls F t) (e1 : co rL = shN R dl) (e2 : co r = co Sl) (e3 : co tL = zr) (e4 : co t = dl) : EuI F R Sl rL r tL t := by
  have hn : Ls F ([] : List Nat) := fun x hx => by cases hx
  have h1 : Ls F [1] := fun x hx => by have := s_ge4 h; simp at hx; omega
  have c0 : co ([] : List Nat) = zr := rfl
  have c1 : co [1] = dl := by
    funext n
    cases n with
    | zero => rfl
    | succ n => rfl
  have z0 : shN R zr = zr := by
    funext n
    rw [shN_at]
    split <;> rfl
  refine ⟨hrL, hr, htL, ht, [1], [], h1, hn, ?_, ?_, ?_⟩
  · rw [c0, z0, zr_ad, e2, ml_co h ht hS, e4, ml_dl h hS]
  · rw [c1, e1, ml_co h htL hS, e3, ml_zr h hS, ad_zr]
  · rw [ml_co h h1 ht, c1, ml_dl h ht, e4]
    show ad zr dl = dl
    exact zr_ad _
theorem euI_step {R : Nat} {Sl rL r tL t q r' t' : List Nat} (hS : Ls F Sl) (I : EuI F R Sl rL r tL t) (hq : Ls F q) (hr' : Ls F r') (ht' : Ls F t') (e1 : co rL = ad (ml F q (co r)) (co r')) (e2 : co t' = ad (ml F q (co t)) (co tL)) : EuI F R Sl r r' t t' := by
  obtain ⟨sL, s, hsL, hs, j1, j2, j3⟩ := I.ex
  have hsb := Ls.co hs
  have hsLb := Ls.co hsL
  have hb : Bd F (ad (ml F q (co s)) (co sL)) := (ml_lt h hq).ad hsLb
  have hsup : ∀ n, s.length + q.length + sL.length ≤ n → ad (ml F q (co s)) (co sL) n = 0 := fun n hn => by
    show ml F q (co s) n ^^^ co sL n = 0
    rw [ml_supp (co_supp s) q n (by omega), co_supp sL n (by omega)]; rfl
  have hs' := ofF_ls hb (s.length + q.length + sL.length)
  have cs' := co_ofF hsup
  generalize ofF (ad (ml F q (co s)) (co sL)) (s.length + q.length + sL.length) = s' at *
  have htb := Ls.co I.lt
  have htLb := Ls.co I.ltL
  refine ⟨I.lr, hr', I.lt, ht', s, s', hs, hs', ?_, j1, ?_⟩
  · have f1 : co r' = ad (co rL) (ml F q (co r)) := ad_move e1
    have f2 : ml F t' (co Sl) = ad (ml F q (ml F t (co Sl))) (ml F tL (co Sl)) := by
      rw [ml_co h ht' hS, e2, ml_ad h hS (ml_lt h hq) htLb, ml_comm h hS hq htb, ml_co h hS I.lt, ml_co h hS I.ltL]
    have f3 : shN R (co s') = ad (ml F q (shN R (co s))) (shN R (co sL)) := by
      rw [cs', shN_ad, ml_shN hq]
    rw [f1, f2, f3]
    have f4 : ml F q (co r) = ad (ml F q (shN R (co s))) (ml F q (ml F t (co Sl))) := by
      rw [j1, ml_ad h hq (Bd.shN hsb R) (ml_lt h I.lt)]
    rw [f4, j2, ad4, ad_comm (shN R (co sL)), ad_comm (ml F tL (co Sl))]
  · have f1 : ml F s' (co t) = ad (ml F q (ml F s (co t))) (ml F sL (co t)) := by
      rw [ml_co h hs' I.lt, cs', ml_ad h I.lt (ml_lt h hq) hsLb, ml_comm h I.lt hq hsb, ml_co h I.lt hs, ml_co h I.lt hsL]
    have f2 : ml F s (co t') = ad (ml F q (ml F s (co t))) (ml F s (co tL)) := by
      rw [e2, ml_ad h hs (ml_lt h hq) htLb, ml_comm h hs hq htb]
    rw [f1, f2, ad4, ad_self, zr_ad, ad_comm]
    exact j3
end
end Go.Proofs.YtopfdmmimgnciaaGreatDoor.Gf
