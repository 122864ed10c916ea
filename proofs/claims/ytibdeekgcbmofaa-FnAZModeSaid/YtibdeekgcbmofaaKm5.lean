/-
  PLAIN: the package's lists (the highest coefficient first) as series; its division; the loop of Euclid on its lists.
-/
import Derived.Test.YtibdeekgcbmofaaKm4
import Derived.Test.YtibdeekgcbmofaaRg
namespace Go.Proofs.Ytibdeekgcbmofaa.Gf
open Go.Proofs.Ytibdeekgcbmofaa

theorem rev_getD (xs : List Nat) (n : Nat) : co xs.reverse n = if n < xs.length then xs.getD (xs.length - 1 - n) 0 else 0 := by
  show xs.reverse.getD n 0 = _
  by_cases hn : n < xs.length
  · rw [if_pos hn, List.getD, List.getD, List.getElem?_reverse hn]
  · rw [if_neg hn, List.getD, List.getElem?_eq_none (by simp; omega)]; rfl
theorem co_zeros (l : List Nat) (k : Nat) : co (l ++ List.replicate k 0) = co l := by
  funext n
  show (l ++ List.replicate k 0).getD n 0 = l.getD n 0
  by_cases hn : n < l.length
  · rw [List.getD, List.getD, List.getElem?_append_left hn]
  · rw [List.getD, List.getD, List.getElem?_append_right (by omega), List.getElem?_eq_none (l := l) (by omega)]
    by_cases h2 : n - l.length < k
    · rw [List.getElem?_replicate_of_lt h2]; rfl
    · rw [List.getElem?_eq_none (by simp; omega)]
theorem co_shift (l : List Nat) (k : Nat) : co (List.replicate k 0 ++ l) = shN k (co l) := by
  funext n
  rw [shN_at]
  show (List.replicate k 0 ++ l).getD n 0 = _
  by_cases hn : n < k
  · rw [if_pos hn, List.getD, List.getElem?_append_left (by simpa using hn), List.getElem?_replicate_of_lt hn]; rfl
  · rw [if_neg hn, List.getD, List.getElem?_append_right (by simp; omega), List.length_replicate]; rfl
theorem ct_pad (n : Nat) (xs : List Nat) : co (pad n xs).reverse = co xs.reverse := by
  unfold pad
  rw [List.reverse_append, List.reverse_replicate, co_zeros]
theorem ct_xo (a b : List Nat) (hl : a.length = b.length) : co (xo a b).reverse = ad (co a.reverse) (co b.reverse) := by
  funext n
  show co (xo a b).reverse n = co a.reverse n ^^^ co b.reverse n
  rw [rev_getD, rev_getD, rev_getD, xo_len, ← hl]
  by_cases hn : n < a.length
  · rw [if_pos hn, if_pos hn, if_pos hn]
    exact xo_at a b _ (by omega)
  · rw [if_neg hn, if_neg hn, if_neg hn]; rfl
theorem ct_padd (xs ys : List Nat) : co (padd xs ys).reverse = ad (co xs.reverse) (co ys.reverse) := by
  unfold padd
  rw [ct_xo _ _ (by rw [pad_len _ _ (by omega), pad_len _ _ (by omega)]), ct_pad, ct_pad]
theorem ct_tidy (xs : List Nat) (hne : xs ≠ []) : co (tidy xs).reverse = co xs.reverse := by
  have e := pad_tidy xs hne
  have e2 := ct_pad xs.length (tidy xs)
  rw [e] at e2
  exact e2.symm
section
variable {F : Fd} (h : Ok F)
include h
theorem ct_scaled {xs : List Nat} (hx : ∀ x ∈ xs, x < F.s) {c : Nat} (hc : c < F.s) : co (scaled F xs c).reverse = sc F c (co xs.reverse) := by
  funext n
  show co (scaled F xs c).reverse n = mul F c (co xs.reverse n)
  rw [rev_getD, rev_getD, scaled_len]
  by_cases hn : n < xs.length
  · rw [if_pos hn, if_pos hn]
    have h2 : xs.length - 1 - n < xs.length := by omega
    unfold scaled
    rw [List.getD, List.getElem?_map, List.getD, List.getElem?_eq_getElem h2]
    exact mul_comm h (hx _ (List.getElem_mem h2)) hc
  · rw [if_neg hn, if_neg hn, mul_zero]
theorem ct_mono {c : Nat} (hc : c < F.s) (k : Nat) : co (c :: List.replicate k 0).reverse = shN k (sc F c dl) := by
  rw [List.reverse_cons, List.reverse_replicate, co_shift]
  congr 1
  funext n
  cases n with
  | zero => show c = mul F c 1; rw [mul_one h hc]
  | succ n => show 0 = mul F c 0; rw [mul_zero]
omit h in
theorem ls_rev {xs : List Nat} (hx : ∀ x ∈ xs, x < F.s) : Ls F xs.reverse := fun x hm => hx x (List.mem_reverse.1 hm)
/-- A step of the division. -/
theorem ct_step {b r : List Nat} (hb : ∀ x ∈ b, x < F.s) (hr : ∀ x ∈ r, x < F.s) (hbn : b ≠ []) (hrn : 0 < r.length) : co (restStep F b r).reverse = ad (co r.reverse) (shN (r.length - b.length) (sc F (lead F b r) (co b.reverse))) := by
  have hl := lead_lt h b hr hrn
  have hne1 : scaled F b (lead F b r) ++ List.replicate (r.length - b.length) 0 ≠ [] := fun h0 => by
    have := congrArg List.length h0
    rw [List.length_append, scaled_len, List.length_nil] at this
    exact hbn (List.eq_nil_of_length_eq_zero (by omega))
  have hne2 : padd r (term F b r) ≠ [] := fun h0 => by
    have := congrArg List.length h0
    rw [padd_len, List.length_nil] at this
    omega
  unfold restStep
  rw [ct_tidy _ hne2, ct_padd]
  unfold term
  rw [ct_tidy _ hne1, List.reverse_append, List.reverse_replicate, co_shift, ct_scaled h hb hl]

/-! ### Quotient and rest -/
def divQ (F : Fd) (b : List Nat) : Nat → List Nat × List Nat → List Nat × List Nat
  | 0, s => s
  | n + 1, s => if b.length ≤ s.2.length ∧ s.2 ≠ [0] then divQ F b n (tidy (padd s.1 (lead F b s.2 :: List.replicate (s.2.length - b.length) 0)), restStep F b s.2) else s
structure DivI (F : Fd) (b a : List Nat) (s : List Nat × List Nat) : Prop where
  q : ∀ x ∈ s.1, x < F.s
  r : ∀ x ∈ s.2, x < F.s
  tq : Tidy s.1
  tr : Tidy s.2
  lr : s.2.length ≤ a.length
  lq : s.1.length ≤ max 1 (a.length - b.length + 1)
  eq : co a.reverse = ad (ml F s.1.reverse (co b.reverse)) (co s.2.reverse)
theorem divI_step {b a : List Nat} (hb : ∀ x ∈ b, x < F.s) (hbn : b ≠ []) (hb0 : b.getD 0 0 ≠ 0) {s : List Nat × List Nat} (I : DivI F b a s) (h1 : b.length ≤ s.2.length) (h0 : s.2 ≠ [0]) :
    DivI F b a (tidy (padd s.1 (lead F b s.2 :: List.replicate (s.2.length - b.length) 0)), restStep F b s.2) ∧ mes (restStep F b s.2) < mes s.2 := by
  have hbl : 0 < b.length := by
    rcases b with _ | ⟨y, t⟩
    · exact absurd rfl hbn
    · simp
  have hl := lead_lt h b I.r (by omega)
  have hm := restStep_mes h hb I.r hbl hb0 I.tr h1 h0
  have hmono : ∀ x ∈ lead F b s.2 :: List.replicate (s.2.length - b.length) 0, x < F.s := fun x hx => by
    rcases List.mem_cons.1 hx with rfl | hx
    · exact hl
    · rw [List.eq_of_mem_replicate hx]; exact s_pos F
  have hne : padd s.1 (lead F b s.2 :: List.replicate (s.2.length - b.length) 0) ≠ [] := fun h9 => by
    have := congrArg List.length h9
    rw [padd_len, List.length_cons, List.length_nil] at this
    omega
  have hql := tidy_len (padd s.1 (lead F b s.2 :: List.replicate (s.2.length - b.length) 0))
  rw [padd_len, List.length_cons, List.length_replicate] at hql
  refine ⟨⟨tidy_lt (padd_lt I.q hmono), restStep_lt h hb I.r, tidy_tidy _ hne, restStep_tidy (fun h9 => by rw [h9, List.length_nil] at h1; omega), Nat.le_trans hm.2 I.lr, ?_, ?_⟩, hm.1⟩
  · have := I.lr
    have := I.lq
    show (tidy _).length ≤ _
    omega
  · have hqs : Ls F s.1.reverse := ls_rev I.q
    have hbs : Ls F b.reverse := ls_rev hb
    have hq2 : Ls F (tidy (padd s.1 (lead F b s.2 :: List.replicate (s.2.length - b.length) 0))).reverse := ls_rev (tidy_lt (padd_lt I.q hmono))
    have e1 : ml F (tidy (padd s.1 (lead F b s.2 :: List.replicate (s.2.length - b.length) 0))).reverse (co b.reverse) = ad (ml F s.1.reverse (co b.reverse)) (shN (s.2.length - b.length) (sc F (lead F b s.2) (co b.reverse))) := by
      rw [ml_co h hq2 hbs, ct_tidy _ hne, ct_padd, ct_mono h hl, ml_ad h hbs (Ls.co hqs) (Bd.shN (Bd.sc h hl) _), ml_shN hbs, ml_sc h hl hbs (Bd.dl h), ml_dl h hbs, ml_co h hqs hbs]
    show co a.reverse = ad (ml F (tidy _).reverse (co b.reverse)) (co (restStep F b s.2).reverse)
    rw [e1, ct_step h hb I.r hbn (by omega), ad4, ad_self, ad_zr]
    exact I.eq
theorem divQ_ok {b a : List Nat} (hb : ∀ x ∈ b, x < F.s) (hbn : b ≠ []) (hb0 : b.getD 0 0 ≠ 0) : ∀ (n : Nat) (s : List Nat × List Nat), DivI F b a s → mes s.2 ≤ n → DivI F b a (divQ F b n s) ∧ ((divQ F b n s).2.length < b.length ∨ (divQ F b n s).2 = [0])
  | 0, s, I, hm => by
    refine ⟨I, .inr ?_⟩
    have h1 := I.tr.1
    unfold mes at hm
    show s.2 = [0]
    split at hm
    · assumption
    · exact absurd (List.eq_nil_of_length_eq_zero (by omega)) h1
  | n + 1, s, I, hm => by
    unfold divQ
    by_cases hc : b.length ≤ s.2.length ∧ s.2 ≠ [0]
    · rw [if_pos hc]
      obtain ⟨I', hm'⟩ := divI_step h hb hbn hb0 I hc.1 hc.2
      exact divQ_ok hb hbn hb0 n _ I' (by show mes (restStep F b s.2) ≤ n; omega)
    · rw [if_neg hc]
      refine ⟨I, ?_⟩
      by_cases h0 : s.2 = [0]
      · exact .inr h0
      · exact .inl (by
          rcases Nat.lt_or_ge s.2.length b.length with h2 | h2
          · exact h2
          · exact absurd ⟨h2, h0⟩ hc)
omit h in
theorem divI_start {b a : List Nat} (ha : ∀ x ∈ a, x < F.s) (hta : Tidy a) : DivI F b a ([0], a) := by
  refine ⟨fun x hx => by simp at hx; subst hx; exact s_pos F, ha, ⟨by simp, .inl rfl⟩, hta, Nat.le_refl _, by simp, ?_⟩
  show co a.reverse = ad (ml F [0] (co b.reverse)) (co a.reverse)
  have e : ml F [0] (co b.reverse) = zr := by
    funext n
    show mul F 0 _ ^^^ sh zr n = 0
    rw [zero_mul, sh_zr]
    exact Nat.xor_self 0
  rw [e, zr_ad]
end
end Go.Proofs.Ytibdeekgcbmofaa.Gf
