/-
  PLAIN: power series over a field as functions; a list of coefficients (the lowest first) acts on them; values; division by 1 + X x.
-/
import Derived.Test.YtibdeekgcbmofaaGf
namespace Go.Proofs.Ytibdeekgcbmofaa.Gf

def Bd (F : Fd) (f : Nat → Nat) : Prop := ∀ n, f n < F.s
def Ls (F : Fd) (p : List Nat) : Prop := ∀ x ∈ p, x < F.s
def ad (f g : Nat → Nat) : Nat → Nat := fun n => f n ^^^ g n
def sc (F : Fd) (a : Nat) (f : Nat → Nat) : Nat → Nat := fun n => mul F a (f n)
def sh (f : Nat → Nat) : Nat → Nat
  | 0 => 0
  | n + 1 => f n
def zr : Nat → Nat := fun _ => 0
/-- The product of a list and a series. -/
def ml (F : Fd) : List Nat → (Nat → Nat) → Nat → Nat
  | [], _ => zr
  | a :: p, f => ad (sc F a f) (sh (ml F p f))
def dl : Nat → Nat
  | 0 => 1
  | _ + 1 => 0
def co (p : List Nat) : Nat → Nat := fun n => p.getD n 0

theorem xlt {F : Fd} {a b : Nat} (ha : a < F.s) (hb : b < F.s) : a ^^^ b < F.s := Nat.xor_lt_two_pow ha hb
theorem x4 (a b c d : Nat) : (a ^^^ b) ^^^ (c ^^^ d) = (a ^^^ c) ^^^ (b ^^^ d) := by
  rw [Nat.xor_assoc, Nat.xor_assoc]; congr 1
  rw [← Nat.xor_assoc, ← Nat.xor_assoc, Nat.xor_comm b c]
theorem x3 (a b : Nat) : a ^^^ (a ^^^ b) = b := by rw [← Nat.xor_assoc, Nat.xor_self, Nat.zero_xor]
theorem ad_comm (f g : Nat → Nat) : ad f g = ad g f := funext fun _ => Nat.xor_comm _ _
theorem ad_assoc (f g k : Nat → Nat) : ad (ad f g) k = ad f (ad g k) := funext fun _ => Nat.xor_assoc _ _ _
theorem ad_self (f : Nat → Nat) : ad f f = zr := funext fun _ => Nat.xor_self _
theorem ad_zr (f : Nat → Nat) : ad f zr = f := funext fun _ => Nat.xor_zero _
theorem zr_ad (f : Nat → Nat) : ad zr f = f := funext fun _ => Nat.zero_xor _
theorem ad4 (a b c d : Nat → Nat) : ad (ad a b) (ad c d) = ad (ad a c) (ad b d) := funext fun _ => x4 _ _ _ _
theorem ad_move {f g k : Nat → Nat} (h : f = ad g k) : k = ad f g := by
  rw [h]; funext n; show k n = (g n ^^^ k n) ^^^ g n
  rw [Nat.xor_comm (g n) (k n), Nat.xor_assoc, Nat.xor_self, Nat.xor_zero]
theorem sh_ad (f g : Nat → Nat) : sh (ad f g) = ad (sh f) (sh g) := by
  funext n; cases n with
  | zero => exact (Nat.xor_self 0).symm
  | succ n => rfl
theorem sh_zr : sh zr = zr := by
  funext n; cases n with
  | zero => rfl
  | succ n => rfl
theorem Bd.ad {F : Fd} {f g : Nat → Nat} (hf : Bd F f) (hg : Bd F g) : Bd F (ad f g) := fun n => xlt (hf n) (hg n)
theorem Bd.sh {F : Fd} {f : Nat → Nat} (hf : Bd F f) : Bd F (sh f) := fun n => by
  cases n with
  | zero => exact s_pos F
  | succ n => exact hf n
theorem Bd.zr (F : Fd) : Bd F zr := fun _ => s_pos F
theorem Bd.dl {F : Fd} (h : Ok F) : Bd F dl := fun n => by
  have := s_ge4 h
  cases n with
  | zero => show 1 < F.s; omega
  | succ n => exact s_pos F
theorem Ls.co {F : Fd} {p : List Nat} (h : Ls F p) : Bd F (co p) := fun n => by
  show p.getD n 0 < F.s
  rw [List.getD]
  cases hn : p[n]? with
  | none => exact s_pos F
  | some x => exact h x (List.mem_of_getElem? hn)
section
variable {F : Fd} (h : Ok F)
include h
theorem Bd.sc {f : Nat → Nat} {a : Nat} (ha : a < F.s) : Bd F (sc F a f) := fun _ => mul_lt h _ ha
theorem ml_lt : ∀ {p : List Nat}, Ls F p → ∀ {f : Nat → Nat}, Bd F (ml F p f)
  | [], _, _ => Bd.zr F
  | a :: _p, hp, _ => (Bd.sc h (hp a (List.mem_cons_self ..))).ad (ml_lt (fun x hx => hp x (List.mem_cons_of_mem _ hx))).sh
theorem ml_ad : ∀ {p : List Nat}, Ls F p → ∀ {f g : Nat → Nat}, Bd F f → Bd F g → ml F p (ad f g) = ad (ml F p f) (ml F p g)
  | [], _, _, _, _, _ => (ad_zr zr).symm
  | a :: p, hp, f, g, hf, hg => by
    have ih := ml_ad (p := p) (fun x hx => hp x (List.mem_cons_of_mem _ hx)) hf hg
    have ha := hp a (List.mem_cons_self ..)
    have e : sc F a (ad f g) = ad (sc F a f) (sc F a g) := funext fun n => mul_xor h ha (hf n) (hg n)
    show ad (sc F a (ad f g)) (sh (ml F p (ad f g))) = ad (ad (sc F a f) (sh (ml F p f))) (ad (sc F a g) (sh (ml F p g)))
    rw [ih, sh_ad, e, ad4]
theorem ml_sc {c : Nat} (hc : c < F.s) : ∀ {p : List Nat}, Ls F p → ∀ {f : Nat → Nat}, Bd F f → ml F p (sc F c f) = sc F c (ml F p f)
  | [], _, _, _ => funext fun _ => (mul_zero F c).symm
  | a :: p, hp, f, hf => by
    have hp' : Ls F p := fun x hx => hp x (List.mem_cons_of_mem _ hx)
    have ih := ml_sc hc hp' hf
    have ha := hp a (List.mem_cons_self ..)
    show ad (sc F a (sc F c f)) (sh (ml F p (sc F c f))) = sc F c (ad (sc F a f) (sh (ml F p f)))
    rw [ih]
    funext n
    show mul F a (mul F c (f n)) ^^^ sh (sc F c (ml F p f)) n = mul F c (mul F a (f n) ^^^ sh (ml F p f) n)
    have e1 : sh (sc F c (ml F p f)) n = mul F c (sh (ml F p f) n) := by
      cases n with
      | zero => exact (mul_zero F c).symm
      | succ n => rfl
    rw [e1, mul_xor h hc (mul_lt h _ ha) ((ml_lt h hp').sh n), ← mul_assoc h ha hc (hf n), mul_comm h ha hc, mul_assoc h hc ha (hf n)]
omit h in
theorem ml_sh : ∀ {p : List Nat}, Ls F p → ∀ {f : Nat → Nat}, ml F p (sh f) = sh (ml F p f)
  | [], _, _ => sh_zr.symm
  | a :: p, hp, f => by
    have ih := ml_sh (p := p) (fun x hx => hp x (List.mem_cons_of_mem _ hx)) (f := f)
    show ad (sc F a (sh f)) (sh (ml F p (sh f))) = sh (ad (sc F a f) (sh (ml F p f)))
    rw [ih]
    funext n
    cases n with
    | zero => show mul F a 0 ^^^ 0 = 0; rw [mul_zero]; rfl
    | succ n => rfl
theorem ml_comm : ∀ {p : List Nat}, Ls F p → ∀ {q : List Nat}, Ls F q → ∀ {f : Nat → Nat}, Bd F f → ml F p (ml F q f) = ml F q (ml F p f)
  | [], _, _, hq, _, _ => by
    show zr = ml F _ zr
    have e := ml_sc h (s_pos F) hq (Bd.zr F)
    have e2 : sc F 0 zr = zr := funext fun _ => mul_zero F 0
    rw [e2] at e
    rw [e]
    exact (funext fun _ => (zero_mul F _).symm)
  | a :: p, hp, q, hq, f, hf => by
    have hp' : Ls F p := fun x hx => hp x (List.mem_cons_of_mem _ hx)
    have ha := hp a (List.mem_cons_self ..)
    have ih := ml_comm hp' hq hf
    show ad (sc F a (ml F q f)) (sh (ml F p (ml F q f))) = ml F q (ad (sc F a f) (sh (ml F p f)))
    rw [ml_ad h hq (Bd.sc h ha) (ml_lt h hp').sh, ml_sc h ha hq hf, ml_sh hq, ih]
theorem ml_zr {p : List Nat} (hp : Ls F p) : ml F p zr = zr := by
  have := ml_comm h (p := []) (fun x hx => by cases hx) hp (Bd.zr F)
  exact this.symm
theorem ml_dl : ∀ {p : List Nat}, Ls F p → ml F p dl = co p
  | [], _ => rfl
  | a :: p, hp => by
    have ih := ml_dl (p := p) (fun x hx => hp x (List.mem_cons_of_mem _ hx))
    have ha := hp a (List.mem_cons_self ..)
    funext n
    show mul F a (dl n) ^^^ sh (ml F p dl) n = _
    rw [ih]
    cases n with
    | zero => show mul F a 1 ^^^ 0 = a; rw [mul_one h ha, Nat.xor_zero]
    | succ n => show mul F a 0 ^^^ co p n = co (a :: p) (n + 1); rw [mul_zero, Nat.zero_xor]; rfl
theorem ml_co {p q : List Nat} (hp : Ls F p) (hq : Ls F q) : ml F p (co q) = ml F q (co p) := by
  rw [← ml_dl h hq, ml_comm h hp hq (Bd.dl h), ml_dl h hp]
omit h in
theorem ml_below {N : Nat} {f g : Nat → Nat} (he : ∀ n, n < N → f n = g n) : ∀ (p : List Nat) (n : Nat), n < N → ml F p f n = ml F p g n
  | [], _, _ => rfl
  | a :: p, n, hn => by
    show mul F a (f n) ^^^ sh (ml F p f) n = mul F a (g n) ^^^ sh (ml F p g) n
    rw [he n hn]
    congr 1
    cases n with
    | zero => rfl
    | succ n => exact ml_below he p n (by omega)
omit h in
theorem ml_supp {d : Nat} {f : Nat → Nat} (hf : ∀ n, d ≤ n → f n = 0) : ∀ (p : List Nat) (n : Nat), d + p.length ≤ n + 1 → ml F p f n = 0
  | [], _, _ => rfl
  | a :: p, n, hn => by
    rw [List.length_cons] at hn
    show mul F a (f n) ^^^ sh (ml F p f) n = 0
    rw [hf n (by omega), mul_zero, Nat.zero_xor]
    cases n with
    | zero => rfl
    | succ n => exact ml_supp hf p n (by omega)
omit h in
theorem ml_top {D : Nat} {f : Nat → Nat} (hf : ∀ n, D < n → f n = 0) : ∀ (p : List Nat) (L : Nat), p.length = L + 1 → ml F p f (L + D) = mul F (p.getD L 0) (f D)
  | [], L, hL => by simp at hL
  | [c], L, hL => by
    obtain rfl : L = 0 := by simpa using hL.symm
    show mul F c (f (0 + D)) ^^^ sh zr (0 + D) = _
    rw [sh_zr, Nat.zero_add]
    exact Nat.xor_zero _
  | a :: b :: p, L, hL => by
    obtain ⟨L, rfl⟩ : ∃ k, L = k + 1 := ⟨L - 1, by simp at hL; omega⟩
    have ih := ml_top hf (b :: p) L (by simpa using hL)
    show mul F a (f (L + 1 + D)) ^^^ sh (ml F (b :: p) f) (L + 1 + D) = _
    rw [hf _ (by omega), mul_zero, Nat.zero_xor, show L + 1 + D = L + D + 1 by omega]
    exact ih
omit h in
theorem ml_zero (p : List Nat) (f : Nat → Nat) : ml F p f 0 = mul F (p.getD 0 0) (f 0) := by
  cases p with
  | nil => show 0 = mul F 0 _; rw [zero_mul]
  | cons a p => show mul F a (f 0) ^^^ 0 = _; rw [Nat.xor_zero]; rfl
/-- A list whose product with something finite is 1 is a constant. -/
theorem prod_one {p : List Nat} (hp : Ls F p) {Z : Nat → Nat} (hZ : Bd F Z) {D : Nat} (hd : ∀ n, D ≤ n → Z n = 0) (he : ml F p Z = dl) : (∀ n, 1 ≤ n → co p n = 0) ∧ mul F (p.getD 0 0) (Z 0) = 1 := by
  have h0 : mul F (p.getD 0 0) (Z 0) = 1 := by rw [← ml_zero, he]; rfl
  refine ⟨?_, h0⟩
  -- the greatest place of Z
  have hz0 : Z 0 ≠ 0 := fun hz => by rw [hz, mul_zero] at h0; cases h0
  have htop : ∀ k, (∀ n, k ≤ n → Z n = 0) → ∃ D', Z D' ≠ 0 ∧ ∀ n, D' < n → Z n = 0 := by
    intro k
    induction k with
    | zero => intro hk; exact absurd (hk 0 (Nat.zero_le _)) hz0
    | succ k ih =>
      intro hk
      by_cases hzk : Z k = 0
      · exact ih (fun n hn => by
          rcases Nat.eq_or_lt_of_le hn with rfl | hn
          · exact hzk
          · exact hk n hn)
      · exact ⟨k, hzk, fun n hn => hk n hn⟩
  obtain ⟨D', hD1, hD2⟩ := htop D hd
  -- the list without the zeros at its end
  have key : ∀ (L : Nat) (q : List Nat), q.length = L → Ls F q → ml F q Z = dl → ∀ n, 1 ≤ n → co q n = 0 := by
    intro L
    induction L with
    | zero => intro q hl _ _ n _; rw [List.eq_nil_of_length_eq_zero hl]; rfl
    | succ L ih =>
      intro q hl hq hqe n hn
      have ht := ml_top (F := F) hD2 q L hl
      rw [hqe] at ht
      by_cases hL : L = 0
      · subst hL
        show q.getD n 0 = 0
        rw [List.getD, List.getElem?_eq_none (by omega)]; rfl
      · have hz : mul F (q.getD L 0) (Z D') = 0 := by
          rw [← ht]
          obtain ⟨k, hk⟩ : ∃ k, L + D' = k + 1 := ⟨L + D' - 1, by omega⟩
          rw [hk]; rfl
        have hqL : q.getD L 0 = 0 := by
          rcases Nat.eq_zero_or_pos (q.getD L 0) with h1 | h1
          · exact h1
          · have := mul_pos h h1 (Ls.co hq L) (Nat.pos_of_ne_zero hD1) (hZ D')
            omega
        -- drop it
        have hq2 : Ls F (q.take L) := fun x hx => hq x (List.mem_of_mem_take hx)
        have hco : co q = co (q.take L) := by
          funext j
          show q.getD j 0 = (q.take L).getD j 0
          by_cases hj : j < L
          · rw [List.getD, List.getD, List.getElem?_take_of_lt hj]
          · have e2 : (q.take L).getD j 0 = 0 := by rw [List.getD, List.getElem?_eq_none (by rw [List.length_take]; omega)]; rfl
            rw [e2]
            rcases Nat.eq_or_lt_of_le (Nat.le_of_not_lt hj) with rfl | hj
            · exact hqL
            · rw [List.getD, List.getElem?_eq_none (by omega)]; rfl
        have hZl : ∃ zl : List Nat, Ls F zl ∧ co zl = Z := by
          refine ⟨(List.range (D' + 1)).map Z, fun x hx => ?_, funext fun j => ?_⟩
          · obtain ⟨i, _, rfl⟩ := List.mem_map.1 hx; exact hZ i
          · show ((List.range (D' + 1)).map Z).getD j 0 = Z j
            by_cases hj : j < D' + 1
            · rw [List.getD, List.getElem?_map, List.getElem?_range hj]; rfl
            · rw [List.getD, List.getElem?_eq_none (by simp; omega), hD2 j (by omega)]; rfl
        obtain ⟨zl, hzl, rfl⟩ := hZl
        have e3 : ml F (q.take L) (co zl) = dl := by rw [ml_co h hq2 hzl, ← hco, ml_co h hzl hq]; exact hqe
        rw [hco]
        exact ih (q.take L) (by rw [List.length_take]; omega) hq2 e3 n hn
  exact key p.length p rfl hp he
end
end Go.Proofs.Ytibdeekgcbmofaa.Gf
