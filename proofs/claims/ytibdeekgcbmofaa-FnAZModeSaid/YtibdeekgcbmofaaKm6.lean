/-
  PLAIN: products of lists as series; the whole loop of Euclid.
-/
import Derived.Test.YtibdeekgcbmofaaKm5
namespace Go.Proofs.Ytibdeekgcbmofaa.Gf
open Go.Proofs.Ytibdeekgcbmofaa

theorem shN_add : ∀ (a b : Nat) (f : Nat → Nat), shN a (shN b f) = shN (a + b) f
  | 0, b, f => by rw [Nat.zero_add]; rfl
  | a + 1, b, f => by
    show sh (shN a (shN b f)) = _
    rw [shN_add a b f, show a + 1 + b = (a + b) + 1 by omega]; rfl
theorem shN_zr (R : Nat) : shN R zr = zr := by
  funext n
  rw [shN_at]
  split <;> rfl
theorem sc_shN (F : Fd) (c k : Nat) (f : Nat → Nat) : sc F c (shN k f) = shN k (sc F c f) := by
  funext n
  show mul F c (shN k f n) = _
  rw [shN_at, shN_at]
  split
  · exact mul_zero F c
  · rfl
theorem ml_snoc {F : Fd} (c : Nat) (f : Nat → Nat) : ∀ (p : List Nat), ml F (p ++ [c]) f = ad (ml F p f) (shN p.length (sc F c f))
  | [] => by
    show ad (sc F c f) (sh zr) = ad zr (sc F c f)
    rw [sh_zr, ad_zr, zr_ad]
  | a :: p => by
    show ad (sc F a f) (sh (ml F (p ++ [c]) f)) = ad (ad (sc F a f) (sh (ml F p f))) (sh (shN p.length (sc F c f)))
    rw [ml_snoc c f p, sh_ad, ad_assoc]
section
variable {F : Fd} (h : Ok F)
include h
theorem co_snoc {y : Nat} (hy : y < F.s) (l : List Nat) : co (l ++ [y]) = ad (co l) (shN l.length (sc F y dl)) := by
  funext n
  show (l ++ [y]).getD n 0 = l.getD n 0 ^^^ shN l.length (sc F y dl) n
  rw [shN_at]
  by_cases hn : n < l.length
  · rw [if_pos hn, Nat.xor_zero, List.getD, List.getD, List.getElem?_append_left hn]
  · rw [if_neg hn, List.getD, List.getElem?_append_right (by omega), List.getD, List.getElem?_eq_none (l := l) (by omega)]
    show _ = 0 ^^^ mul F y (dl (n - l.length))
    rw [Nat.zero_xor]
    obtain ⟨k, hk⟩ : ∃ k, k = n - l.length := ⟨_, rfl⟩
    rw [← hk]
    cases k with
    | zero => show y = mul F y 1; rw [mul_one h hy]
    | succ k => show 0 = mul F y 0; rw [mul_zero]
theorem ct_addAt {out : List Nat} {j v : Nat} (hv : v < F.s) (hj : j < out.length) : co (addAt out j v).reverse = ad (co out.reverse) (shN (out.length - 1 - j) (sc F v dl)) := by
  funext n
  show co (addAt out j v).reverse n = co out.reverse n ^^^ shN (out.length - 1 - j) (sc F v dl) n
  rw [rev_getD, rev_getD, addAt_len, shN_at]
  by_cases hn : n < out.length
  · rw [if_pos hn, if_pos hn]
    unfold addAt
    by_cases hnj : out.length - 1 - n = j
    · rw [if_neg (by omega), show n - (out.length - 1 - j) = 0 by omega, hnj]
      show _ = _ ^^^ mul F v 1
      rw [mul_one h hv, List.getD, List.getElem?_set_self (by omega)]; rfl
    · have e : (out.set j (out.getD j 0 ^^^ v)).getD (out.length - 1 - n) 0 = out.getD (out.length - 1 - n) 0 := by
        rw [List.getD, List.getElem?_set_ne (fun he => hnj he.symm)]; rfl
      rw [e]
      by_cases h2 : n < out.length - 1 - j
      · rw [if_pos h2, Nat.xor_zero]
      · rw [if_neg h2]
        obtain ⟨k, hk⟩ : ∃ k, n - (out.length - 1 - j) = k + 1 := ⟨n - (out.length - 1 - j) - 1, by omega⟩
        rw [hk]
        show _ = _ ^^^ mul F v 0
        rw [mul_zero, Nat.xor_zero]
  · rw [if_neg hn, if_neg hn, if_neg (by omega)]
    obtain ⟨k, hk⟩ : ∃ k, n - (out.length - 1 - j) = k + 1 := ⟨n - (out.length - 1 - j) - 1, by omega⟩
    rw [hk]
    show _ = _ ^^^ mul F v 0
    rw [mul_zero]; rfl
theorem ct_inner {x : Nat} (hx : x < F.s) : ∀ (ys : List Nat) (j : Nat) (out : List Nat), (∀ y ∈ ys, y < F.s) → j + ys.length ≤ out.length → co (inner F x ys j out).reverse = ad (co out.reverse) (shN (out.length - j - ys.length) (sc F x (co ys.reverse)))
  | [], j, out, _, _ => by
    have e : sc F x (co ([] : List Nat).reverse) = zr := funext fun _ => mul_zero F x
    rw [e, shN_zr, ad_zr]; rfl
  | y :: ys, j, out, hy, hl => by
    rw [List.length_cons] at hl
    have hy0 := hy y (List.mem_cons_self ..)
    have hys : ∀ z ∈ ys, z < F.s := fun z hz => hy z (List.mem_cons_of_mem _ hz)
    have ih := ct_inner hx ys (j + 1) (addAt out j (mul F x y)) hys (by rw [addAt_len]; omega)
    show co (inner F x ys (j + 1) (addAt out j (mul F x y))).reverse = _
    rw [ih, addAt_len, ct_addAt h (mul_lt h _ hx) (by omega), List.reverse_cons, co_snoc h hy0, List.length_cons, List.length_reverse]
    have e1 : sc F x (ad (co ys.reverse) (shN ys.length (sc F y dl))) = ad (sc F x (co ys.reverse)) (shN ys.length (sc F (mul F x y) dl)) := by
      funext n
      show mul F x (co ys.reverse n ^^^ shN ys.length (sc F y dl) n) = mul F x (co ys.reverse n) ^^^ shN ys.length (sc F (mul F x y) dl) n
      rw [mul_xor h hx (Ls.co (ls_rev hys) n) (Bd.shN (Bd.sc h hy0) _ n)]
      congr 1
      rw [shN_at, shN_at]
      split
      · exact mul_zero F x
      · exact (mul_assoc h hx hy0 (Bd.dl h _)).symm
    rw [e1, shN_ad, shN_add, show out.length - j - (ys.length + 1) + ys.length = out.length - 1 - j by omega, ad_assoc]
    congr 1
    rw [ad_comm, show out.length - (j + 1) - ys.length = out.length - j - (ys.length + 1) by omega]
theorem ct_outer {ys : List Nat} (hy : ∀ y ∈ ys, y < F.s) (hyn : 0 < ys.length) : ∀ (xs : List Nat) (i : Nat) (out : List Nat), (∀ x ∈ xs, x < F.s) → i + xs.length + ys.length = out.length + 1 → co (outer F xs ys i out).reverse = ad (co out.reverse) (ml F xs.reverse (co ys.reverse))
  | [], i, out, _, _ => by
    show co out.reverse = ad _ zr
    rw [ad_zr]
  | x :: xs, i, out, hx, hl => by
    rw [List.length_cons] at hl
    have hx0 := hx x (List.mem_cons_self ..)
    have ih := ct_outer hy hyn xs (i + 1) (inner F x ys i out) (fun z hz => hx z (List.mem_cons_of_mem _ hz)) (by rw [inner_len]; omega)
    show co (outer F xs ys (i + 1) (inner F x ys i out)).reverse = _
    rw [ih, ct_inner h hx0 ys i out hy (by omega), List.reverse_cons, ml_snoc, List.length_reverse, show out.length - i - ys.length = xs.length by omega, ad_assoc]
    congr 1
    exact ad_comm _ _
theorem ct_prod {xs ys : List Nat} (hx : ∀ x ∈ xs, x < F.s) (hy : ∀ y ∈ ys, y < F.s) (hxn : 0 < xs.length) (hyn : 0 < ys.length) : co (prod F xs ys).reverse = ml F xs.reverse (co ys.reverse) := by
  unfold prod
  rw [ct_outer h hy hyn xs 0 _ hx (by rw [List.length_replicate]; omega), List.reverse_replicate]
  have e := co_zeros [] (xs.length + ys.length - 1)
  rw [List.nil_append] at e
  rw [e]
  exact zr_ad _

/-! ### The loop of Euclid -/
structure Eu where
  rL : List Nat
  r : List Nat
  tL : List Nat
  t : List Nat
def eucStep (F : Fd) (s : Eu) : Eu :=
  ⟨s.r, (divQ F s.r s.rL.length ([0], s.rL)).2, s.t, tidy (padd (tidy (prod F (divQ F s.r s.rL.length ([0], s.rL)).1 s.t)) s.tL)⟩
def euc (F : Fd) (R : Nat) : Nat → Eu → Eu
  | 0, s => s
  | n + 1, s => if R ≤ 2 * (s.r.length - 1) then euc F R n (eucStep F s) else s
structure EuJ (F : Fd) (R : Nat) (Sl : List Nat) (s : Eu) : Prop where
  I : EuI F R Sl s.rL.reverse s.r.reverse s.tL.reverse s.t.reverse
  trL : Tidy s.rL
  tr : Tidy s.r
  ttL : Tidy s.tL
  tt : Tidy s.t
  l1 : s.t.length + s.rL.length ≤ R + 2
  l2 : s.tL.length + s.rL.length ≤ R + 2
  l3 : R ≤ 2 * (s.rL.length - 1)
  l4 : s.r.length < s.rL.length
omit h in
theorem un_rev {F : Fd} {xs : List Nat} (hx : Ls F xs.reverse) : ∀ x ∈ xs, x < F.s := fun x hm => hx x (List.mem_reverse.2 hm)
omit h in
theorem tidy_pos {xs : List Nat} (ht : Tidy xs) : 0 < xs.length := by
  rcases xs with _ | ⟨x, r⟩
  · exact absurd rfl ht.1
  · simp
omit h in
theorem tidy_lead {xs : List Nat} (ht : Tidy xs) (h2 : 2 ≤ xs.length) : xs.getD 0 0 ≠ 0 := by
  rcases ht.2 with h1 | h1
  · omega
  · exact h1
theorem euJ_step {R : Nat} {Sl : List Nat} (hR : 1 ≤ R) (hS : Ls F Sl) {s : Eu} (J : EuJ F R Sl s) (hc : R ≤ 2 * (s.r.length - 1)) : EuJ F R Sl (eucStep F s) := by
  have hr2 : 2 ≤ s.r.length := by omega
  have hrb := un_rev J.I.lr
  have hrLb := un_rev J.I.lrL
  have htb := un_rev J.I.lt
  have htLb := un_rev J.I.ltL
  have hm : mes ([0], s.rL).2 ≤ s.rL.length := mes_le s.rL
  obtain ⟨D, hend⟩ := divQ_ok h hrb J.tr.1 (tidy_lead J.tr hr2) s.rL.length ([0], s.rL) (divI_start hrLb J.trL) hm
  have hr'l : (divQ F s.r s.rL.length ([0], s.rL)).2.length < s.r.length := by
    rcases hend with h1 | h1
    · exact h1
    · rw [h1]; exact hr2
  unfold eucStep
  generalize divQ F s.r s.rL.length ([0], s.rL) = d at *
  have htp := tidy_pos J.tt
  have hqp := tidy_pos D.tq
  have hpl : prod F d.1 s.t ≠ [] := fun h9 => by
    have := congrArg List.length h9
    rw [prod_len, List.length_nil] at this
    omega
  have hpb := prod_lt h d.1 s.t D.q
  have hane : padd (tidy (prod F d.1 s.t)) s.tL ≠ [] := fun h9 => by
    have := congrArg List.length h9
    have h8 := tidy_pos J.ttL
    rw [padd_len, List.length_nil] at this
    omega
  have hab := padd_lt (tidy_lt hpb) htLb
  have e2 : co (tidy (padd (tidy (prod F d.1 s.t)) s.tL)).reverse = ad (ml F d.1.reverse (co s.t.reverse)) (co s.tL.reverse) := by
    rw [ct_tidy _ hane, ct_padd, ct_tidy _ hpl, ct_prod h D.q htb hqp htp]
  have hlen : (tidy (padd (tidy (prod F d.1 s.t)) s.tL)).length ≤ max (d.1.length + s.t.length - 1) s.tL.length := by
    have h1 := tidy_len (padd (tidy (prod F d.1 s.t)) s.tL)
    have h2 := tidy_len (prod F d.1 s.t)
    rw [padd_len] at h1
    rw [prod_len] at h2
    omega
  have hlq := D.lq
  have h1 := J.l1
  have h2 := J.l2
  have h4 := J.l4
  exact ⟨euI_step h hS J.I (ls_rev D.q) (ls_rev D.r) (ls_rev (tidy_lt hab)) D.eq e2, J.tr, D.tr, J.tt, tidy_tidy _ hane,
    by show (tidy _).length + s.r.length ≤ R + 2; omega, by show s.t.length + s.r.length ≤ R + 2; omega, hc, hr'l⟩
theorem euc_ok {R : Nat} {Sl : List Nat} (hR : 1 ≤ R) (hS : Ls F Sl) : ∀ (n : Nat) (s : Eu), EuJ F R Sl s → s.r.length ≤ n → EuJ F R Sl (euc F R n s) ∧ ¬ R ≤ 2 * ((euc F R n s).r.length - 1)
  | 0, s, J, hn => by have := tidy_pos J.tr; omega
  | n + 1, s, J, hn => by
    unfold euc
    by_cases hc : R ≤ 2 * (s.r.length - 1)
    · rw [if_pos hc]
      have J' := euJ_step h hR hS J hc
      refine euc_ok hR hS n _ J' ?_
      have h4 := J'.l4
      have e : (eucStep F s).rL = s.r := rfl
      rw [e] at h4
      omega
    · rw [if_neg hc]
      exact ⟨J, hc⟩
end
end Go.Proofs.Ytibdeekgcbmofaa.Gf
