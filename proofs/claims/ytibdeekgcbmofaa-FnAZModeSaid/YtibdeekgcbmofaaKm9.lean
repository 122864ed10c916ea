/-
  PLAIN: the decoder's answer at hurt words.
-/
import Derived.Test.YtibdeekgcbmofaaKm8
namespace Go.Proofs.Ytibdeekgcbmofaa.Gf
open Go.Proofs.Ytibdeekgcbmofaa

section
variable {F : Fd} (h : Ok F)
include h
theorem syn_lt (R : Nat) {xs : List Nat} (hx : ∀ x ∈ xs, x < F.s) : Ls F (synL F R xs) := fun x hm => by
  obtain ⟨i, _, rfl⟩ := List.mem_map.1 hm
  exact ev_lt h (ex_lt h _) hx
omit h in
theorem syn_len (R : Nat) (xs : List Nat) : (synL F R xs).length = R := by simp [synL]
/-- What the loop of Euclid starts with. -/
theorem eu_start {R : Nat} (hR : 1 ≤ R) {xs : List Nat} (hx : ∀ x ∈ xs, x < F.s) : EuJ F R (synL F R xs) ⟨1 :: List.replicate R 0, tidy (synL F R xs).reverse, [0], [1]⟩ := by
  have hS := syn_lt h R hx
  have hl := syn_len (F := F) R xs
  have h1 : 1 < F.s := by have := s_ge4 h; omega
  have hne : (synL F R xs).reverse ≠ [] := fun hc => by
    have := congrArg List.length hc
    rw [List.length_reverse, hl, List.length_nil] at this
    omega
  have hlen := tidy_len (synL F R xs).reverse
  rw [List.length_reverse, hl] at hlen
  refine ⟨euI_start h hS ?_ ?_ ?_ ?_ ?_ ?_ ?_ ?_, ⟨by simp, Or.inr (by simp)⟩, tidy_tidy _ hne, ⟨by simp, Or.inl rfl⟩, ⟨by simp, Or.inl rfl⟩, ?_, ?_, ?_, ?_⟩
  · refine ls_rev fun x hm => ?_
    rcases List.mem_cons.1 hm with rfl | hm
    · exact h1
    · rw [List.eq_of_mem_replicate hm]; exact s_pos F
  · exact ls_rev (tidy_lt fun x hm => hS x (List.mem_reverse.1 hm))
  · intro x hm
    rw [List.mem_singleton.1 hm]; exact s_pos F
  · intro x hm
    rw [List.mem_singleton.1 hm]; exact h1
  · have e := ct_mono h h1 R
    rw [e]
    congr 1
    funext n
    exact one_mul h (Bd.dl h n)
  · rw [ct_tidy _ hne, List.reverse_reverse]
  · funext n
    cases n <;> rfl
  · funext n
    cases n <;> rfl
  · show 1 + (1 :: List.replicate R 0).length ≤ R + 2
    rw [List.length_cons, List.length_replicate]; omega
  · show 1 + (1 :: List.replicate R 0).length ≤ R + 2
    rw [List.length_cons, List.length_replicate]; omega
  · show R ≤ 2 * ((1 :: List.replicate R 0).length - 1)
    rw [List.length_cons, List.length_replicate]; omega
  · show (tidy _).length < (1 :: List.replicate R 0).length
    rw [List.length_cons, List.length_replicate]; omega
/-- What the loop of Euclid ends with, whatever the words. -/
theorem eu_end {R : Nat} (hR : 1 ≤ R) {xs : List Nat} (hx : ∀ x ∈ xs, x < F.s) : EuJ F R (synL F R xs) (eu0 F R xs) ∧ ¬ R ≤ 2 * ((eu0 F R xs).r.length - 1) := by
  refine euc_ok h hR (syn_lt h R hx) R _ (eu_start h hR hx) ?_
  have := tidy_len (synL F R xs).reverse
  rw [List.length_reverse, syn_len] at this
  exact this
theorem co_scaled {xs : List Nat} (hx : ∀ x ∈ xs, x < F.s) {m : Nat} (m0 : 0 < m) (hm : m < F.s) {f : Nat → Nat} (hf : Bd F f) (e : co xs.reverse = sc F m f) : co (scaled F xs (inv F m)).reverse = f := by
  rw [ct_scaled h hx (inv_lt h m), e]
  funext n
  show mul F (inv F m) (mul F m (f n)) = f n
  rw [← mul_assoc h (inv_lt h m) hm (hf n), inv_mul h m0 hm, one_mul h (hf n)]
theorem rsDec_ok {R : Nat} (hR : 1 ≤ R) (hb : F.b ≤ 1) {c e : List Nat} (hl : c.length = e.length) (hn : e.length ≤ F.s - 1) (hc : ∀ x ∈ c, x < F.s) (he : ∀ x ∈ e, x < F.s) (hroot : ∀ i, i < R → ev F (ex F (i + F.b)) c = 0) (h2 : 2 * (esOf F e).length ≤ R) : rsDec F R (xo c e) = some c := by
  have hS := syn_ok h R hl hn hc he hroot
  have hE := esOf_errs h e hn he
  have hx := xo_lt c e hc he
  by_cases hnil : esOf F e = []
  · have e0 := esOf_nil F e hnil
    have hall : (synL F R (xo c e)).all (· == 0) = true := by
      rw [hS, hnil, List.all_eq_true]
      intro x hm
      obtain ⟨i, _, rfl⟩ := List.mem_map.1 hm
      rfl
    unfold rsDec
    rw [if_pos hall, e0, xo_zero]
  have hSI : ∀ n, n < R → co (synL F R (xo c e)) n = SI F F.b (esOf F e) n := fun n hn => by
    rw [hS]
    show List.getD _ n 0 = _
    rw [List.getD, List.getElem?_map, List.getElem?_range hn]; rfl
  have hall : ¬ (synL F R (xo c e)).all (· == 0) = true := fun hc => by
    refine Om_zero h (b := F.b) hE (R := R) (by omega) (fun n hn => ?_) hnil
    rw [← hSI n hn]
    rw [List.all_eq_true] at hc
    show List.getD _ n 0 = 0
    have hn' : n < (synL F R (xo c e)).length := by rw [syn_len]; exact hn
    rw [List.getD, List.getElem?_eq_getElem hn']
    exact beq_iff_eq.1 (hc _ (List.getElem_mem hn'))
  obtain ⟨J, hend⟩ := eu_end h hR hx
  unfold rsDec
  rw [if_neg hall]
  have hrp := tidy_pos J.tr
  have htp := tidy_pos J.tt
  have l1 := J.l1
  have l3 := J.l3
  obtain ⟨m, m0, hm, et, er⟩ := euI_end h (syn_lt h R hx) (Nat.le_of_eq (syn_len R _)) J.I hE hSI (by rw [List.length_reverse]; omega) (by rw [List.length_reverse]; omega)
  generalize eu0 F R (xo c e) = s at *
  have hrb := un_rev J.I.lr
  have htb := un_rev J.I.lt
  have hXl := lX_len (esOf F e)
  have e0 : t0 s = m := by
    have e1 := congrFun et 0
    rw [rev_getD, if_pos htp] at e1
    show s.t.getD (s.t.length - 1) 0 = m
    rw [show s.t.length - 1 - 0 = s.t.length - 1 by omega] at e1
    rw [e1]
    show mul F m (opL F (lX (esOf F e)) dl 0) = m
    rw [opL_at0 h hE.ls, mul_one h hm]
  rw [e0, if_neg (show ¬ m = 0 by omega)]
  have hSb : Bd F (opL F (lX (esOf F e)) dl) := opL_lt h hE.ls (Bd.dl h)
  have cs : co (sigO F s).reverse = opL F (lX (esOf F e)) dl := by
    unfold sigO
    rw [e0]
    exact co_scaled h htb m0 hm hSb et
  have cw : co (omO F s).reverse = Om F F.b (esOf F e) := by
    unfold omO
    rw [e0]
    exact co_scaled h hrb m0 hm (Om_lt h F.b hE) er
  have bs : ∀ x ∈ sigO F s, x < F.s := scaled_lt h _ htb
  have bw : ∀ x ∈ omO F s, x < F.s := scaled_lt h _ hrb
  have ts : Tidy (sigO F s) := by
    unfold sigO
    rw [e0]
    exact scaled_tidy h J.tt htb (inv_pos h m) (inv_lt h m)
  have hlen : (sigO F s).length = (lX (esOf F e)).length + 1 := by
    have p1 := opL_topPos h hE.ls hE.pos
    have p2 : ∀ n, (lX (esOf F e)).length + 1 ≤ n → opL F (lX (esOf F e)) dl n = 0 := fun n hn => opL_supp dl_supp _ n (by omega)
    rw [← cs] at p1
    rw [← cs] at p2
    rw [rev_getD] at p1
    by_cases g1 : (lX (esOf F e)).length < (sigO F s).length
    · apply Classical.byContradiction
      intro g2
      have g3 := p2 ((sigO F s).length - 1) (by omega)
      rw [rev_getD, if_pos (by omega), Nat.sub_self] at g3
      exact tidy_lead ts (by omega) g3
    · rw [if_neg g1] at p1; omega
  obtain ⟨L, hL, hperm⟩ := locs_ok h hE.ls hE.pos hE.nd bs hlen cs
  rw [hL]
  show fixW F (xo c e).length (L.map fun X => (X, mag F (omO F s) L X)) (xo c e) = some c
  have hpairs : (L.map fun X => (X, mag F (omO F s) L X)).Perm (esOf F e) := by
    refine (hperm.map _).trans ?_
    have e1 : (lX (esOf F e)).map (fun X => (X, mag F (omO F s) L X)) = esOf F e := by
      unfold lX
      rw [List.map_map]
      refine (List.map_congr_left (g := id) fun p hp => ?_).trans (List.map_id _)
      show (p.1, mag F (omO F s) L p.1) = p
      rw [mag_ok h hb hE bw cw hperm (X := p.1) (Y := p.2) hp]
    rw [e1]
  have hxl := xo_len c e
  obtain ⟨ws, w1, w2, w3⟩ := fixW_ok (F := F) (xo c e).length (L.map fun X => (X, mag F (omO F s) L X)) (xo c e) rfl (fun p hp => by
    obtain ⟨k, k1, _, k3⟩ := esOf_lg h e hn p (hpairs.mem_iff.1 hp)
    omega)
  rw [w1]
  congr 1
  refine List.ext_getElem (by omega) fun j j1 j2 => ?_
  have e1 := w3 j (by omega)
  rw [sumAt_perm hpairs, sumAt_es h _ e hn, xo_at c e j j2, rev_getD, if_pos (by omega), hxl, show e.length - 1 - (c.length - 1 - j) = j by omega, Nat.xor_assoc, Nat.xor_self, Nat.xor_zero, getD_lt _ _ _ j1, getD_lt _ _ _ j2] at e1
  exact e1
end
end Go.Proofs.Ytibdeekgcbmofaa.Gf
