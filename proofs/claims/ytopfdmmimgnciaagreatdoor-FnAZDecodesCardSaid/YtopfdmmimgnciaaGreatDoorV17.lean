/-
  PLAIN: the package's lists (the highest coefficient first) as series; its division; the loop of Euclid on its lists. PLAIN: products of lists as series; the whole loop of Euclid. PLAIN: the decoder's answer as a function of the words, and that it mends as many errors as it is meant for. PLAIN: the decoder mends as many errors as it is meant for. PLAIN: the decoder's answer at hurt words.
-/
import Derived.Test.YtopfdmmimgnciaaGreatDoorV16
import Derived.Test.YtopfdmmimgnciaaGreatDoorV09
namespace Go.Proofs.YtopfdmmimgnciaaGreatDoor.Gf
open Go.Proofs.YtopfdmmimgnciaaGreatDoor

theorem rev_getD (xs : List Nat) (n : Nat) : co xs.reverse n = if n < xs.length then xs.getD (xs.length - 1 - n) 0 else 0 := by
  show xs.reverse.getD n 0 = _
  by_cases hn : n < xs.length
  · rw [if_pos hn, List.getD, List.getD, List.getElem?_reverse hn]
  · rw [if_neg hn, List.getD, List.getElem?_eq_none (by simp; omega)]; rfl
theorem co_zeros (l : List Nat) (k : Nat) : co (l ++ List.replicate k 0) = co l := by
  funext n
  show (l ++ List.replicate k 0).getD n 0 = l.getD n 0
  by_cases hn : n < l.length
  · rw [List.getD, List.getD, List.getElem?_append_left hn]
  · rw [List.getD, List.getD, List.getElem?_append_right (by omega), List.getElem?_eq_none (l := l) (by omega)]
    by_cases h2 : n - l.length < k
    · rw [List.getElem?_replicate_of_lt h2]; rfl
    · rw [List.getElem?_eq_none (by simp; omega)]
theorem co_shift (l : List Nat) (k : Nat) : co (List.replicate k 0 ++ l) = shN k (co l) := by
  funext n
  rw [shN_at]
  show (List.replicate k 0 ++ l).getD n 0 = _
  by_cases hn : n < k
  · rw [if_pos hn, List.getD, List.getElem?_append_left (by simpa using hn), List.getElem?_replicate_of_lt hn]; rfl
  · rw [if_neg hn, List.getD, List.getElem?_append_right (by simp; omega), List.length_replicate]; rfl
theorem ct_pad (n : Nat) (xs : List Nat) : co (pad n xs).reverse = co xs.reverse := by
  unfold pad
  rw [List.reverse_append, List.reverse_replicate, co_zeros]
theorem ct_xo (a b : List Nat) (hl : a.length = b.length) : co (xo a b).reverse = ad (co a.reverse) (co b.reverse) := by
  funext n
  show co (xo a b).reverse n = co a.reverse n ^^^ co b.reverse n
  rw [rev_getD, rev_getD, rev_getD, xo_len, ← hl]
  by_cases hn : n < a.length
  · rw [if_pos hn, if_pos hn, if_pos hn]
    exact xo_at a b _ (by omega)
  · rw [if_neg hn, if_neg hn, if_neg hn]; rfl
theorem ct_padd (xs ys : List Nat) : co (padd xs ys).reverse = ad (co xs.reverse) (co ys.reverse) := by
  unfold padd
  rw [ct_xo _ _ (by rw [pad_len _ _ (by omega), pad_len _ _ (by omega)]), ct_pad, ct_pad]
theorem ct_tidy (xs : List Nat) (hne : xs ≠ []) : co (tidy xs).reverse = co xs.reverse := by
  have e := pad_tidy xs hne
  have e2 := ct_pad xs.length (tidy xs)
  rw [e] at e2
  exact e2.symm
section
variable {F : Fd} (h : Ok F)
include h
theorem ct_scaled {xs : List Nat} (hx : ∀ x ∈ xs, x < F.s) {c : Nat} (hc : c < F.s) : co (scaled F xs c).reverse = sc F c (co xs.reverse) := by
  funext n
  show co (scaled F xs c).reverse n = mul F c (co xs.reverse n)
  rw [rev_getD, rev_getD, scaled_len]
  by_cases hn : n < xs.length
  · rw [if_pos hn, if_pos hn]
    have h2 : xs.length - 1 - n < xs.length := by omega
    unfold scaled
    rw [List.getD, List.getElem?_map, List.getD, List.getElem?_eq_getElem h2]
    exact mul_comm h (hx _ (List.getElem_mem h2)) hc
  · rw [if_neg hn, if_neg hn, mul_zero]
theorem ct_mono {c : Nat} (hc : c < F.s) (k : Nat) : co (c :: List.replicate k 0).reverse = shN k (sc F c dl) := by
  rw [List.reverse_cons, List.reverse_replicate, co_shift]
  congr 1
  funext n
  cases n with
  | zero => show c = mul F c 1; rw [mul_one h hc]
  | succ n => show 0 = mul F c 0; rw [mul_zero]
omit h in
theorem ls_rev {xs : List Nat} (hx : ∀ x ∈ xs, x < F.s) : Ls F xs.reverse := fun x hm => hx x (List.mem_reverse.1 hm)
/-- A step of the division. -/
theorem ct_step {b r : List Nat} (hb : ∀ x ∈ b, x < F.s) (hr : ∀ x ∈ r, x < F.s) (hbn : b ≠ []) (hrn : 0 < r.length) : co (restStep F b r).reverse = ad (co r.reverse) (shN (r.length - b.length) (sc F (lead F b r) (co b.reverse))) := by
  have hl := lead_lt h b hr hrn
  have hne1 : scaled F b (lead F b r) ++ List.replicate (r.length - b.length) 0 ≠ [] := fun h0 => by
    have := congrArg List.length h0
    rw [List.length_append, scaled_len, List.length_nil] at this
    exact hbn (List.eq_nil_of_length_eq_zero (by omega))
  have hne2 : padd r (term F b r) ≠ [] := fun h0 => by
    have := congrArg List.length h0
    rw [padd_len, List.length_nil] at this
    omega
  unfold restStep
  rw [ct_tidy _ hne2, ct_padd]
  unfold term
  rw [ct_tidy _ hne1, List.reverse_append, List.reverse_replicate, co_shift, ct_scaled h hb hl]

/-! ### Quotient and rest -/
def divQ (F : Fd) (b : List Nat) : Nat → List Nat × List Nat → List Nat × List Nat
  | 0, s => s
  | n + 1, s => if b.length ≤ s.2.length ∧ s.2 ≠ [0] then divQ F b n (tidy (padd s.1 (lead F b s.2 :: List.replicate (s.2.length - b.length) 0)), restStep F b s.2) else s
structure DivI (F : Fd) (b a : List Nat) (s : List Nat × List Nat) : Prop where
  q : ∀ x ∈ s.1, x < F.s
  r : ∀ x ∈ s.2, x < F.s
  tq : Tidy s.1
  tr : Tidy s.2
  lr : s.2.length ≤ a.length
  lq : s.1.length ≤ max 1 (a.length - b.length + 1)
  eq : co a.reverse = ad (ml F s.1.reverse (co b.reverse)) (co s.2.reverse)
theorem divI_step {b a : List Nat} (hb : ∀ x ∈ b, x < F.s) (hbn : b ≠ []) (hb0 : b.getD 0 0 ≠ 0) {s : List Nat × List Nat} (I : DivI F b a s) (h1 : b.length ≤ s.2.length) (h0 : s.2 ≠ [0]) :
    DivI F b a (tidy (padd s.1 (lead F b s.2 :: List.replicate (s.2.length - b.length) 0)), restStep F b s.2) ∧ mes (restStep F b s.2) < mes s.2 := by
  have hbl : 0 < b.length := by
    rcases b with _ | ⟨y, t⟩
    · exact absurd rfl hbn
    · simp
  have hl := lead_lt h b I.r (by omega)
  have hm := restStep_mes h hb I.r hbl hb0 I.tr h1 h0
  have hmono : ∀ x ∈ lead F b s.2 :: List.replicate (s.2.length - b.length) 0, x < F.s := fun x hx => by
    rcases List.mem_cons.1 hx with rfl | hx
    · exact hl
    · rw [List.eq_of_mem_replicate hx]; exact s_pos F
  have hne : padd s.1 (lead F b s.2 :: List.replicate (s.2.length - b.length) 0) ≠ [] := fun h9 => by
    have := congrArg List.length h9
    rw [padd_len, List.length_cons, List.length_nil] at this
    omega
  have hql := tidy_len (padd s.1 (lead F b s.2 :: List.replicate (s.2.length - b.length) 0))
  rw [padd_len, List.length_cons, List.length_replicate] at hql
  refine ⟨⟨tidy_lt (padd_lt I.q hmono), restStep_lt h hb I.r, tidy_tidy _ hne, restStep_tidy (fun h9 => by rw [h9, List.length_nil] at h1; omega), Nat.le_trans hm.2 I.lr, ?_, ?_⟩, hm.1⟩
  · have := I.lr
    have := I.lq
    show (tidy _).length ≤ _
    omega
  · have hqs : Ls F s.1.reverse := ls_rev I.q
    have hbs : Ls F b.reverse := ls_rev hb
    have hq2 : Ls F (tidy (padd s.1 (lead F b s.2 :: List.replicate (s.2.length - b.length) 0))).reverse := ls_rev (tidy_lt (padd_lt I.q hmono))
    have e1 : ml F (tidy (padd s.1 (lead F b s.2 :: List.replicate (s.2.length - b.length) 0))).reverse (co b.reverse) = ad (ml F s.1.reverse (co b.reverse)) (shN (s.2.length - b.length) (sc F (lead F b s.2) (co b.reverse))) := by
      rw [ml_co h hq2 hbs, ct_tidy _ hne, ct_padd, ct_mono h hl, ml_ad h hbs (Ls.co hqs) (Bd.shN (Bd.sc h hl) _), ml_shN hbs, ml_sc h hl hbs (Bd.dl h), ml_dl h hbs, ml_co h hqs hbs]
    show co a.reverse = ad (ml F (tidy _).reverse (co b.reverse)) (co (restStep F b s.2).reverse)
    rw [e1, ct_step h hb I.r hbn (by omega), ad4, ad_self, ad_zr]
    exact I.eq
theorem divQ_ok {b a : List Nat} (hb : ∀ x ∈ b, x < F.s) (hbn : b ≠ []) (hb0 : b.getD 0 0 ≠ 0) : ∀ (n : Nat) (s : List Nat × List Nat), DivI F b a s → mes s.2 ≤ n → DivI F b a (divQ F b n s) ∧ ((divQ F b n s).2.length < b.length ∨ (divQ F b n s).2 = [0])
  | 0, s, I, hm => by
    refine ⟨I, .inr ?_⟩
    have h1 := I.tr.1
    unfold mes at hm
    show s.2 = [0]
    split at hm
    · assumption
    · exact absurd (List.eq_nil_of_length_eq_zero (by omega)) h1
  | n + 1, s, I, hm => by
    unfold divQ
    by_cases hc : b.length ≤ s.2.length ∧ s.2 ≠ [0]
    · rw [if_pos hc]
      obtain ⟨I', hm'⟩ := divI_step h hb hbn hb0 I hc.1 hc.2
      exact divQ_ok hb hbn hb0 n _ I' (by show mes (restStep F b s.2) ≤ n; omega)
    · rw [if_neg hc]
      refine ⟨I, ?_⟩
      by_cases h0 : s.2 = [0]
      · exact .inr h0
      · exact .inl (by
          rcases Nat.lt_or_ge s.2.length b.length with h2 | h2
          · exact h2
          · exact absurd ⟨h2, h0⟩ hc)
omit h in
theorem divI_start {b a : List Nat} (ha : ∀ x ∈ a, x < F.s) (hta : Tidy a) : DivI F b a ([0], a) := by
  refine ⟨fun x hx => by simp at hx; subst hx; exact s_pos F, ha, ⟨by simp, .inl rfl⟩, hta, Nat.le_refl _, by simp, ?_⟩
  show co a.reverse = ad (ml F [0] (co b.reverse)) (co a.reverse)
  have e : ml F [0] (co b.reverse) = zr := by
    funext n
    show mul F 0 _ ^^^ sh zr n = 0
    rw [zero_mul, sh_zr]
    exact Nat.xor_self 0
  rw [e, zr_ad]
end
end Go.Proofs.YtopfdmmimgnciaaGreatDoor.Gf
namespace Go.Proofs.YtopfdmmimgnciaaGreatDoor.Gf
open Go.Proofs.YtopfdmmimgnciaaGreatDoor

theorem shN_add : ∀ (a b : Nat) (f : Nat → Nat), shN a (shN b f) = shN (a + b) f
  | 0, b, f => by rw [Nat.zero_add]; rfl
  | a + 1, b, f => by
    show sh (shN a (shN b f)) = _
    rw [shN_add a b f, show a + 1 + b = (a + b) + 1 by omega]; rfl
theorem shN_zr (R : Nat) : shN R zr = zr := by
  funext n
  rw [shN_at]
  split <;> rfl
theorem ml_snoc {F : Fd} (c : Nat) (f : Nat → Nat) : ∀ (p : List Nat), ml F (p ++ [c]) f = ad (ml F p f) (shN p.length (sc F c f))
  | [] => by
    show ad (sc F c f) (sh zr) = ad zr (sc F c f)
    rw [sh_zr, ad_zr, zr_ad]
  | a :: p => by
    show ad (sc F a f) (sh (ml F (p ++ [c]) f)) = ad (ad (sc F a f) (sh (ml F p f))) (sh (shN p.length (sc F c f)))
    rw [ml_snoc c f p, sh_ad, ad_assoc]
section
variable {F : Fd} (h : Ok F)
include h
theorem co_snoc {y : Nat} (hy : y < F.s) (l : List Nat) : co (l ++ [y]) = ad (co l) (shN l.length (sc F y dl)) := by
  funext n
  show (l ++ [y]).getD n 0 = l.getD n 0 ^^^ shN l.length (sc F y dl) n
  rw [shN_at]
  by_cases hn : n < l.length
  · rw [if_pos hn, Nat.xor_zero, List.getD, List.getD, List.getElem?_append_left hn]
  · rw [if_neg hn, List.getD, List.getElem?_append_right (by omega), List.getD, List.getElem?_eq_none (l := l) (by omega)]
    show _ = 0 ^^^ mul F y (dl (n - l.length))
    rw [Nat.zero_xor]
    obtain ⟨k, hk⟩ : ∃ k, k = n - l.length := ⟨_, rfl⟩
    rw [← hk]
    cases k with
    | zero => show y = mul F y 1; rw [mul_one h hy]
    | succ k => show 0 = mul F y 0; rw [mul_zero]
theorem ct_addAt {out : List Nat} {j v : Nat} (hv : v < F.s) (hj : j < out.length) : co (addAt out j v).reverse = ad (co out.reverse) (shN (out.length - 1 - j) (sc F v dl)) := by
  funext n
  show co (addAt out j v).reverse n = co out.reverse n ^^^ shN (out.length - 1 - j) (sc F v dl) n
  rw [rev_getD, rev_getD, addAt_len, shN_at]
  by_cases hn : n < out.length
  · rw [if_pos hn, if_pos hn]
    unfold addAt
    by_cases hnj : out.length - 1 - n = j
    · rw [if_neg (by omega), show n - (out.length - 1 - j) = 0 by omega, hnj]
      show _ = _ ^^^ mul F v 1
      rw [mul_one h hv, List.getD, List.getElem?_set_self (by omega)]; rfl
    · have e : (out.set j (out.getD j 0 ^^^ v)).getD (out.length - 1 - n) 0 = out.getD (out.length - 1 - n) 0 := by
        rw [List.getD, List.getElem?_set_ne (fun he => hnj he.symm)]; rfl
      rw [e]
      by_cases h2 : n < out.length - 1 - j
      · rw [if_pos h2, Nat.xor_zero]
      · rw [if_neg h2]
        obtain ⟨k, hk⟩ : ∃ k, n - (out.length - 1 - j) = k + 1 := ⟨n - (out.length - 1 - j) - 1, by omega⟩
        rw [hk]
        show _ = _ ^^^ mul F v 0
        rw [mul_zero, Nat.xor_zero]
  · rw [if_neg hn, if_neg hn, if_neg (by omega)]
    obtain ⟨k, hk⟩ : ∃ k, n - (out.length - 1 - j) = k + 1 := ⟨n - (out.length - 1 - j) - 1, by omega⟩
    rw [hk]
    show _ = _ ^^^ mul F v 0
    rw [mul_zero]; rfl
theorem ct_inner {x : Nat} (hx : x < F.s) : ∀ (ys : List Nat) (j : Nat) (out : List Nat), (∀ y ∈ ys, y < F.s) → j + ys.length ≤ out.length → co (inner F x ys j out).reverse = ad (co out.reverse) (shN (out.length - j - ys.length) (sc F x (co ys.reverse)))
  | [], j, out, _, _ => by
    have e : sc F x (co ([] : List Nat).reverse) = zr := funext fun _ => mul_zero F x
    rw [e, shN_zr, ad_zr]; rfl
  | y :: ys, j, out, hy, hl => by
    rw [List.length_cons] at hl
    have hy0 := hy y (List.mem_cons_self ..)
    have hys : ∀ z ∈ ys, z < F.s := fun z hz => hy z (List.mem_cons_of_mem _ hz)
    have ih := ct_inner hx ys (j + 1) (addAt out j (mul F x y)) hys (by rw [addAt_len]; omega)
    show co (inner F x ys (j + 1) (addAt out j (mul F x y))).reverse = _
    rw [ih, addAt_len, ct_addAt h (mul_lt h _ hx) (by omega), List.reverse_cons, co_snoc h hy0, List.length_cons, List.length_reverse]
    have e1 : sc F x (ad (co ys.reverse) (shN ys.length (sc F y dl))) = ad (sc F x (co ys.reverse)) (shN ys.length (sc F (mul F x y) dl)) := by
      funext n
      show mul F x (co ys.reverse n ^^^ shN ys.length (sc F y dl) n) = mul F x (co ys.reverse n) ^^^ shN ys.length (sc F (mul F x y) dl) n
      rw [mul_xor h hx (Ls.co (ls_rev hys) n) (Bd.shN (Bd.sc h hy0) _ n)]
      congr 1
      rw [shN_at, shN_at]
      split
      · exact mul_zero F x
      · exact (mul_assoc h hx hy0 (Bd.dl h _)).symm
    rw [e1, shN_ad, shN_add, show out.length - j - (ys.length + 1) + ys.length = out.length - 1 - j by omega, ad_assoc]
    congr 1
    rw [ad_comm, show out.length - (j + 1) - ys.length = out.length - j - (ys.length + 1) by omega]
theorem ct_outer {ys : List Nat} (hy : ∀ y ∈ ys, y < F.s) (hyn : 0 < ys.length) : ∀ (xs : List Nat) (i : Nat) (out : List Nat), (∀ x ∈ xs, x < F.s) → i + xs.length + ys.length = out.length + 1 → co (outer F xs ys i out).reverse = ad (co out.reverse) (ml F xs.reverse (co ys.reverse))
  | [], i, out, _, _ => by
    show co out.reverse = ad _ zr
    rw [ad_zr]
  | x :: xs, i, out, hx, hl => by
    rw [List.length_cons] at hl
    have hx0 := hx x (List.mem_cons_self ..)
    have ih := ct_outer hy hyn xs (i + 1) (inner F x ys i out) (fun z hz => hx z (List.mem_cons_of_mem _ hz)) (by rw [inner_len]; omega)
    show co (outer F xs ys (i + 1) (inner F x ys i out)).reverse = _
    rw [ih, ct_inner h hx0 ys i out hy (by omega), List.reverse_cons, ml_snoc, List.length_reverse, show out.length - i - ys.length = xs.length by omega, ad_assoc]
    congr 1
    exact ad_comm _ _
theorem ct_prod {xs ys : List Nat} (hx : ∀ x ∈ xs, x < F.s) (hy : ∀ y ∈ ys, y < F.s) (hxn : 0 < xs.length) (hyn : 0 < ys.length) : co (prod F xs ys).reverse = ml F xs.reverse (co ys.reverse) := by
  unfold prod
  rw [ct_outer h hy hyn xs 0 _ hx (by rw [List.length_replicate]; omega), List.reverse_replicate]
  have e := co_zeros [] (xs.length + ys.length - 1)
  rw [List.nil_append] at e
  rw [e]
  exact zr_ad _

/-! ### The loop of Euclid -/
structure Eu where
  rL : List Nat
  r : List Nat
  tL : List Nat
  t : List Nat
def eucStep (F : Fd) (s : Eu) : Eu :=
  ⟨s.r, (divQ F s.r s.rL.length ([0], s.rL)).2, s.t, tidy (padd (tidy (prod F (divQ F s.r s.rL.length ([0], s.rL)).1 s.t)) s.tL)⟩
def euc (F : Fd) (R : Nat) : Nat → Eu → Eu
  | 0, s => s
  | n + 1, s => if R ≤ 2 * (s.r.length - 1) then euc F R n (eucStep F s) else s
structure EuJ (F : Fd) (R : Nat) (Sl : List Nat) (s : Eu) : Prop where
  I : EuI F R Sl s.rL.reverse s.r.reverse s.tL.reverse s.t.reverse
  trL : Tidy s.rL
  tr : Tidy s.r
  ttL : Tidy s.tL
  tt : Tidy s.t
  l1 : s.t.length + s.rL.length ≤ R + 2
  l2 : s.tL.length + s.rL.length ≤ R + 2
  l3 : R ≤ 2 * (s.rL.length - 1)
  l4 : s.r.length < s.rL.length
omit h in
theorem un_rev {F : Fd} {xs : List Nat} (hx : Ls F xs.reverse) : ∀ x ∈ xs, x < F.s := fun x hm => hx x (List.mem_reverse.2 hm)
omit h in
theorem tidy_pos {xs : List Nat} (ht : Tidy xs) : 0 < xs.length := by
  rcases xs with _ | ⟨x, r⟩
  · exact absurd rfl ht.1
  · simp
omit h in
theorem tidy_lead {xs : List Nat} (ht : Tidy xs) (h2 : 2 ≤ xs.length) : xs.getD 0 0 ≠ 0 := by
  rcases ht.2 with h1 | h1
  · omega
  · exact h1
theorem euJ_step {R : Nat} {Sl : List Nat} (hR : 1 ≤ R) (hS : Ls F Sl) {s : Eu} (J : EuJ F R Sl s) (hc : R ≤ 2 * (s.r.length - 1)) : EuJ F R Sl (eucStep F s) := by
  have hr2 : 2 ≤ s.r.length := by omega
  have hrb := un_rev J.I.lr
  have hrLb := un_rev J.I.lrL
  have htb := un_rev J.I.lt
  have htLb := un_rev J.I.ltL
  have hm : mes ([0], s.rL).2 ≤ s.rL.length := mes_le s.rL
  obtain ⟨D, hend⟩ := divQ_ok h hrb J.tr.1 (tidy_lead J.tr hr2) s.rL.length ([0], s.rL) (divI_start hrLb J.trL) hm
  have hr'l : (divQ F s.r s.rL.length ([0], s.rL)).2.length < s.r.length := by
    rcases hend with h1 | h1
    · exact h1
    · rw [h1]; exact hr2
  unfold eucStep
  generalize divQ F s.r s.rL.length ([0], s.rL) = d at *
  have htp := tidy_pos J.tt
  have hqp := tidy_pos D.tq
  have hpl : prod F d.1 s.t ≠ [] := fun h9 => by
    have := congrArg List.length h9
    rw [prod_len, List.length_nil] at this
    omega
  have hpb := prod_lt h d.1 s.t D.q
  have hane : padd (tidy (prod F d.1 s.t)) s.tL ≠ [] := fun h9 => by
    have := congrArg List.length h9
    have h8 := tidy_pos J.ttL
    rw [padd_len, List.length_nil] at this
    omega
  have hab := padd_lt (tidy_lt hpb) htLb
  have e2 : co (tidy (padd (tidy (prod F d.1 s.t)) s.tL)).reverse = ad (ml F d.1.reverse (co s.t.reverse)) (co s.tL.reverse) := by
    rw [ct_tidy _ hane, ct_padd, ct_tidy _ hpl, ct_prod h D.q htb hqp htp]
  have hlen : (tidy (padd (tidy (prod F d.1 s.t)) s.tL)).length ≤ max (d.1.length + s.t.length - 1) s.tL.length := by
    have h1 := tidy_len (padd (tidy (prod F d.1 s.t)) s.tL)
    have h2 := tidy_len (prod F d.1 s.t)
    rw [padd_len] at h1
    rw [prod_len] at h2
    omega
  have hlq := D.lq
  have h1 := J.l1
  have h2 := J.l2
  have h4 := J.l4
  exact ⟨euI_step h hS J.I (ls_rev D.q) (ls_rev D.r) (ls_rev (tidy_lt hab)) D.eq e2, J.tr, D.tr, J.tt, tidy_tidy _ hane,
    by show (tidy _).length + s.r.length ≤ R + 2; omega, by show s.t.length + s.r.length ≤ R + 2; omega, hc, hr'l⟩
theorem euc_ok {R : Nat} {Sl : List Nat} (hR : 1 ≤ R) (hS : Ls F Sl) : ∀ (n : Nat) (s : Eu), EuJ F R Sl s → s.r.length ≤ n → EuJ F R Sl (euc F R n s) ∧ ¬ R ≤ 2 * ((euc F R n s).r.length - 1)
  | 0, s, J, hn => by have := tidy_pos J.tr; omega
  | n + 1, s, J, hn => by
    unfold euc
    by_cases hc : R ≤ 2 * (s.r.length - 1)
    · rw [if_pos hc]
      have J' := euJ_step h hR hS J hc
      refine euc_ok hR hS n _ J' ?_
      have h4 := J'.l4
      have e : (eucStep F s).rL = s.r := rfl
      rw [e] at h4
      omega
    · rw [if_neg hc]
      exact ⟨J, hc⟩
end
end Go.Proofs.YtopfdmmimgnciaaGreatDoor.Gf
namespace Go.Proofs.YtopfdmmimgnciaaGreatDoor.Gf
open Go.Proofs.YtopfdmmimgnciaaGreatDoor

/-! ### The decoder -/
def synL (F : Fd) (R : Nat) (xs : List Nat) : List Nat := (List.range R).map fun i => ev F (ex F (i + F.b)) xs
def eu0 (F : Fd) (R : Nat) (xs : List Nat) : Eu := euc F R R ⟨1 :: List.replicate R 0, tidy (synL F R xs).reverse, [0], [1]⟩
def locs (F : Fd) (sg : List Nat) : Option (List Nat) :=
  if sg.length = 2 then some [sg.getD 0 0]
  else if (((List.range' 1 (F.s - 1)).filter fun i => ev F i sg == 0).take (sg.length - 1)).length = sg.length - 1 then some ((((List.range' 1 (F.s - 1)).filter fun i => ev F i sg == 0).take (sg.length - 1)).map (inv F)) else none
def denF (F : Fd) (X : Nat) : List Nat → Nat → Nat
  | [], d => d
  | Z :: Zs, d => denF F X Zs (if Z = X then d else mul F d (mul F Z (inv F X) ^^^ 1))
def mag (F : Fd) (om L : List Nat) (X : Nat) : Nat :=
  if F.b = 0 then mul F (ev F (inv F X) om) (inv F (denF F X L 1)) else mul F (mul F (ev F (inv F X) om) (inv F (denF F X L 1))) (inv F X)
def fixW (F : Fd) (n : Nat) : List (Nat × Nat) → List Nat → Option (List Nat)
  | [], ws => some ws
  | (X, Y) :: r, ws => if n ≤ lg F X then none else fixW F n r (ws.set (n - 1 - lg F X) (ws.getD (n - 1 - lg F X) 0 ^^^ Y))
def t0 (s : Eu) : Nat := s.t.getD (s.t.length - 1) 0
def sigO (F : Fd) (s : Eu) : List Nat := scaled F s.t (inv F (t0 s))
def omO (F : Fd) (s : Eu) : List Nat := scaled F s.r (inv F (t0 s))
def rsDec (F : Fd) (R : Nat) (xs : List Nat) : Option (List Nat) :=
  if (synL F R xs).all (· == 0) = true then some xs
  else if t0 (eu0 F R xs) = 0 then none
  else match locs F (sigO F (eu0 F R xs)) with
    | none => none
    | some L => fixW F xs.length (L.map fun X => (X, mag F (omO F (eu0 F R xs)) L X)) xs

/-! ### Errors by their places -/
def esOf (F : Fd) : List Nat → List (Nat × Nat)
  | [] => []
  | y :: r => if y = 0 then esOf F r else (ex F r.length, y) :: esOf F r
section
variable {F : Fd} (h : Ok F)
include h
end
end Go.Proofs.YtopfdmmimgnciaaGreatDoor.Gf
namespace Go.Proofs.YtopfdmmimgnciaaGreatDoor.Gf
open Go.Proofs.YtopfdmmimgnciaaGreatDoor

section
variable {F : Fd} (h : Ok F)
include h
theorem inv_inv {X : Nat} (h0 : 0 < X) (hX : X < F.s) : inv F (inv F X) = X :=
  (inv_uniq h (inv_pos h X) (inv_lt h X) hX (inv_mul h h0 hX)).symm
theorem nodup_inv {Xs : List Nat} (hX : Ls F Xs) (hp : ∀ X ∈ Xs, 0 < X) (hn : Xs.Nodup) : (Xs.map (inv F)).Nodup := by
  induction Xs with
  | nil => exact List.nodup_nil
  | cons X r ih =>
    have h1 := List.nodup_cons.1 hn
    refine List.nodup_cons.2 ⟨fun hm => ?_, ih (fun x hx => hX x (List.mem_cons_of_mem _ hx)) (fun x hx => hp x (List.mem_cons_of_mem _ hx)) h1.2⟩
    obtain ⟨Z, hz, he⟩ := List.mem_map.1 hm
    have e := congrArg (inv F) he
    rw [inv_inv h (hp Z (List.mem_cons_of_mem _ hz)) (hX Z (List.mem_cons_of_mem _ hz)), inv_inv h (hp X (List.mem_cons_self ..)) (hX X (List.mem_cons_self ..))] at e
    rw [e] at hz
    exact h1.1 hz
theorem denF_prO {X : Nat} : ∀ (L : List Nat) (d : Nat), Ls F L → d < F.s → denF F X L d = mul F d (prO F (inv F X) X L)
  | [], d, _, hd => (mul_one h hd).symm
  | Z :: L, d, hL, hd => by
    have hZ := hL Z (List.mem_cons_self ..)
    have hL' : Ls F L := fun z hz => hL z (List.mem_cons_of_mem _ hz)
    have ha := inv_lt h X
    have h1 : 1 < F.s := by have := s_ge4 h; omega
    have b1 : 1 ^^^ mul F (inv F X) Z < F.s := xlt h1 (mul_lt h _ ha)
    show denF F X L (if Z = X then d else mul F d (mul F Z (inv F X) ^^^ 1)) = mul F d (if Z = X then prO F (inv F X) X L else mul F (1 ^^^ mul F (inv F X) Z) (prO F (inv F X) X L))
    by_cases c : Z = X
    · rw [if_pos c, if_pos c, denF_prO L d hL' hd]
    · rw [if_neg c, if_neg c, denF_prO L _ hL' (mul_lt h _ hd), mul_comm h hZ ha, Nat.xor_comm _ 1, mul_assoc h hd b1 (prO_lt h ha X L)]
end
end Go.Proofs.YtopfdmmimgnciaaGreatDoor.Gf
namespace Go.Proofs.YtopfdmmimgnciaaGreatDoor.Gf
open Go.Proofs.YtopfdmmimgnciaaGreatDoor

section
variable {F : Fd} (h : Ok F)
include h
theorem syn_lt (R : Nat) {xs : List Nat} (hx : ∀ x ∈ xs, x < F.s) : Ls F (synL F R xs) := fun x hm => by
  obtain ⟨i, _, rfl⟩ := List.mem_map.1 hm
  exact ev_lt h (ex_lt h _) hx
omit h in
theorem syn_len (R : Nat) (xs : List Nat) : (synL F R xs).length = R := by simp [synL]
/-- What the loop of Euclid starts with. -/
theorem eu_start {R : Nat} (hR : 1 ≤ R) {xs : List Nat} (hx : ∀ x ∈ xs, x < F.s) : EuJ F R (synL F R xs) ⟨1 :: List.replicate R 0, tidy (synL F R xs).reverse, [0], [1]⟩ := by
  have hS := syn_lt h R hx
  have hl := syn_len (F := F) R xs
  have h1 : 1 < F.s := by have := s_ge4 h; omega
  have hne : (synL F R xs).reverse ≠ [] := fun hc => by
    have := congrArg List.length hc
    rw [List.length_reverse, hl, List.length_nil] at this
    omega
  have hlen := tidy_len (synL F R xs).reverse
  rw [List.length_reverse, hl] at hlen
  refine ⟨euI_start h hS ?_ ?_ ?_ ?_ ?_ ?_ ?_ ?_, ⟨by simp, Or.inr (by simp)⟩, tidy_tidy _ hne, ⟨by simp, Or.inl rfl⟩, ⟨by simp, Or.inl rfl⟩, ?_, ?_, ?_, ?_⟩
  · refine ls_rev fun x hm => ?_
    rcases List.mem_cons.1 hm with rfl | hm
    · exact h1
    · rw [List.eq_of_mem_replicate hm]; exact s_pos F
  · exact ls_rev (tidy_lt fun x hm => hS x (List.mem_reverse.1 hm))
  · intro x hm
    rw [List.mem_singleton.1 hm]; exact s_pos F
  · intro x hm
    rw [List.mem_singleton.1 hm]; exact h1
  · have e := ct_mono h h1 R
    rw [e]
    congr 1
    funext n
    exact one_mul h (Bd.dl h n)
  · rw [ct_tidy _ hne, List.reverse_reverse]
  · funext n
    cases n <;> rfl
  · funext n
    cases n <;> rfl
  · show 1 + (1 :: List.replicate R 0).length ≤ R + 2
    rw [List.length_cons, List.length_replicate]; omega
  · show 1 + (1 :: List.replicate R 0).length ≤ R + 2
    rw [List.length_cons, List.length_replicate]; omega
  · show R ≤ 2 * ((1 :: List.replicate R 0).length - 1)
    rw [List.length_cons, List.length_replicate]; omega
  · show (tidy _).length < (1 :: List.replicate R 0).length
    rw [List.length_cons, List.length_replicate]; omega
/-- What the loop of Euclid ends with, whatever the words. -/
theorem eu_end {R : Nat} (hR : 1 ≤ R) {xs : List Nat} (hx : ∀ x ∈ xs, x < F.s) : EuJ F R (synL F R xs) (eu0 F R xs) ∧ ¬ R ≤ 2 * ((eu0 F R xs).r.length - 1) := by
  refine euc_ok h hR (syn_lt h R hx) R _ (eu_start h hR hx) ?_
  have := tidy_len (synL F R xs).reverse
  rw [List.length_reverse, syn_len] at this
  exact this
end
end Go.Proofs.YtopfdmmimgnciaaGreatDoor.Gf
