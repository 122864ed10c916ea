/-
  PLAIN: the algorithm of Euclid: what stays, and what it ends with.
-/
import Derived.Test.YtibdeekgcbmofaaKm3
namespace Go.Proofs.Ytibdeekgcbmofaa.Gf

structure EuI (F : Fd) (R : Nat) (Sl rL r tL t : List Nat) : Prop where
  lrL : Ls F rL
  lr : Ls F r
  ltL : Ls F tL
  lt : Ls F t
  ex : ∃ sL s : List Nat, Ls F sL ∧ Ls F s ∧ co r = ad (shN R (co s)) (ml F t (co Sl)) ∧ co rL = ad (shN R (co sL)) (ml F tL (co Sl)) ∧ ad (ml F s (co tL)) (ml F sL (co t)) = dl
section
variable {F : Fd} (h : Ok F)
include h
theorem euI_start {R : Nat} {Sl rL r tL t : List Nat} (hS : Ls F Sl) (hrL : Ls F rL) (hr : Ls F r) (htL : Ls F tL) (ht : Ls F t) (e1 : co rL = shN R dl) (e2 : co r = co Sl) (e3 : co tL = zr) (e4 : co t = dl) : EuI F R Sl rL r tL t := by
  have hn : Ls F ([] : List Nat) := fun x hx => by cases hx
  have h1 : Ls F [1] := fun x hx => by have := s_ge4 h; simp at hx; omega
  have c0 : co ([] : List Nat) = zr := rfl
  have c1 : co [1] = dl := by
    funext n
    cases n with
    | zero => rfl
    | succ n => rfl
  have z0 : shN R zr = zr := by
    funext n
    rw [shN_at]
    split <;> rfl
  refine ⟨hrL, hr, htL, ht, [1], [], h1, hn, ?_, ?_, ?_⟩
  · rw [c0, z0, zr_ad, e2, ml_co h ht hS, e4, ml_dl h hS]
  · rw [c1, e1, ml_co h htL hS, e3, ml_zr h hS, ad_zr]
  · rw [ml_co h h1 ht, c1, ml_dl h ht, e4]
    show ad zr dl = dl
    exact zr_ad _
theorem euI_step {R : Nat} {Sl rL r tL t q r' t' : List Nat} (hS : Ls F Sl) (I : EuI F R Sl rL r tL t) (hq : Ls F q) (hr' : Ls F r') (ht' : Ls F t') (e1 : co rL = ad (ml F q (co r)) (co r')) (e2 : co t' = ad (ml F q (co t)) (co tL)) : EuI F R Sl r r' t t' := by
  obtain ⟨sL, s, hsL, hs, j1, j2, j3⟩ := I.ex
  have hsb := Ls.co hs
  have hsLb := Ls.co hsL
  have hb : Bd F (ad (ml F q (co s)) (co sL)) := (ml_lt h hq).ad hsLb
  have hsup : ∀ n, s.length + q.length + sL.length ≤ n → ad (ml F q (co s)) (co sL) n = 0 := fun n hn => by
    show ml F q (co s) n ^^^ co sL n = 0
    rw [ml_supp (co_supp s) q n (by omega), co_supp sL n (by omega)]; rfl
  have hs' := ofF_ls hb (s.length + q.length + sL.length)
  have cs' := co_ofF hsup
  generalize ofF (ad (ml F q (co s)) (co sL)) (s.length + q.length + sL.length) = s' at *
  have htb := Ls.co I.lt
  have htLb := Ls.co I.ltL
  refine ⟨I.lr, hr', I.lt, ht', s, s', hs, hs', ?_, j1, ?_⟩
  · have f1 : co r' = ad (co rL) (ml F q (co r)) := ad_move e1
    have f2 : ml F t' (co Sl) = ad (ml F q (ml F t (co Sl))) (ml F tL (co Sl)) := by
      rw [ml_co h ht' hS, e2, ml_ad h hS (ml_lt h hq) htLb, ml_comm h hS hq htb, ml_co h hS I.lt, ml_co h hS I.ltL]
    have f3 : shN R (co s') = ad (ml F q (shN R (co s))) (shN R (co sL)) := by
      rw [cs', shN_ad, ml_shN hq]
    rw [f1, f2, f3]
    have f4 : ml F q (co r) = ad (ml F q (shN R (co s))) (ml F q (ml F t (co Sl))) := by
      rw [j1, ml_ad h hq (Bd.shN hsb R) (ml_lt h I.lt)]
    rw [f4, j2, ad4, ad_comm (shN R (co sL)), ad_comm (ml F tL (co Sl))]
  · have f1 : ml F s' (co t) = ad (ml F q (ml F s (co t))) (ml F sL (co t)) := by
      rw [ml_co h hs' I.lt, cs', ml_ad h I.lt (ml_lt h hq) hsLb, ml_comm h I.lt hq hsb, ml_co h I.lt hs, ml_co h I.lt hsL]
    have f2 : ml F s (co t') = ad (ml F q (ml F s (co t))) (ml F s (co tL)) := by
      rw [e2, ml_ad h hs (ml_lt h hq) htLb, ml_comm h hs hq htb]
    rw [f1, f2, ad4, ad_self, zr_ad, ad_comm]
    exact j3
omit h in
theorem evl_co {a : Nat} : ∀ (p : List Nat), evl F a p = evF F a p.length (co p)
  | [] => rfl
  | x :: p => by
    show x ^^^ mul F a (evl F a p) = x ^^^ mul F a (evF F a p.length (sl (co (x :: p))))
    rw [evl_co p]
    rfl
theorem euI_end {R b : Nat} {Sl rL r tL t : List Nat} (hS : Ls F Sl) (hSl : Sl.length ≤ R) (I : EuI F R Sl rL r tL t) {es : List (Nat × Nat)} (he : Errs F es) (hSI : ∀ n, n < R → co Sl n = SI F b es n) (hrl : r.length + es.length ≤ R) (htl : t.length + es.length ≤ R + 1) :
    ∃ m, 0 < m ∧ m < F.s ∧ co t = sc F m (opL F (lX es) dl) ∧ co r = sc F m (Om F b es) := by
  obtain ⟨sL, s, hsL, hs, j1, j2, j3⟩ := I.ex
  have hX := he.ls
  have hXl := lX_len es
  have hSi := SI_lt h b he
  have hOb := Om_lt h b he
  have hOs := Om_supp h b he
  have hSb := Ls.co hS
  have hrb := Ls.co I.lr
  have htb := Ls.co I.lt
  -- the key equation
  have ka : ∀ n, n < R → co r n = ml F t (SI F b es) n := fun n hn => by
    rw [j1]
    show shN R (co s) n ^^^ ml F t (co Sl) n = _
    rw [shN_at, if_pos hn, Nat.zero_xor]
    exact ml_below hSI t n hn
  have star : opL F (lX es) (co r) = ml F t (Om F b es) := by
    funext n
    by_cases hn : n < R
    · rw [opL_below ka (lX es) n hn]
      exact congrFun (opL_ml h I.lt hX hSi).symm n
    · rw [opL_supp (co_supp r) (lX es) n (by omega), ml_supp hOs t n (by omega)]
  -- roots
  have hroot : ∀ X ∈ lX es, evF F (inv F X) (t.length + es.length) (co t) = 0 := fun X hXm => by
    obtain ⟨⟨X', Y⟩, hm, rfl⟩ := List.mem_map.1 hXm
    have ha := inv_lt h X'
    have hx0 := he.x0 _ hm
    have e1 := evF_opL h ha hX hrb (co_supp r)
    rw [prX_zero X' hXm (inv_mul h hx0.1 hx0.2), zero_mul, star] at e1
    have e2 := evF_ml h ha hOb hOs I.lt
    have s1 : ∀ n, r.length + (lX es).length ≤ n → ml F t (Om F b es) n = 0 := fun n hn => by
      rw [← star]; exact opL_supp (co_supp r) (lX es) n hn
    have s2 : ∀ n, es.length + t.length ≤ n → ml F t (Om F b es) n = 0 := fun n hn => ml_supp hOs t n (by omega)
    have e3 := evF_to (F := F) (inv F X') s1 (Nat.le_add_right _ (es.length + t.length))
    have e4 := evF_to (F := F) (inv F X') s2 (Nat.le_add_left _ (r.length + (lX es).length))
    rw [e1] at e3
    rw [e3] at e4
    have e5 : mul F (evl F (inv F X') t) (evF F (inv F X') es.length (Om F b es)) = 0 := by rw [← e2]; exact e4.symm
    have hpos := Om_ne h b he hm
    have e6 : evl F (inv F X') t = 0 := by
      rcases Nat.eq_zero_or_pos (evl F (inv F X') t) with h1 | h1
      · exact h1
      · have := mul_pos h h1 (evl_lt h ha I.lt) hpos (evF_lt h ha _ hOb)
        omega
    rw [evF_to _ (co_supp t) (by omega), ← evl_co]
    exact e6
  obtain ⟨g, hg1, hg2, hg3⟩ := factor h hX he.pos he.nd htb (fun n hn => co_supp t n (by omega)) hroot (by omega)
  have hM := ofF_ls hg1 t.length
  have cM : co (ofF g t.length) = g := co_ofF (fun n hn => hg2 n (by omega))
  rw [← cM] at hg3
  generalize ofF g t.length = M at *
  have hMb := Ls.co hM
  have hO := ofF_ls hOb es.length
  have cO : co (ofF (Om F b es) es.length) = Om F b es := co_ofF hOs
  generalize ofF (Om F b es) es.length = O at *
  -- t's product with something finite
  have ht : ∀ q : List Nat, Ls F q → ml F t (co q) = opL F (lX es) (ml F M (co q)) := fun q hq => by
    rw [ml_co h I.lt hq, ← hg3, opL_ml h hq hX hMb, ml_co h hq hM]
  have hrM : co r = ml F M (Om F b es) := by
    refine opL_inj h hX hrb (ml_lt h hM) ?_
    rw [star, ← cO]
    exact ht O hO
  -- s
  have hsR : shN R (co s) = ad (co r) (ml F t (co Sl)) := by
    rw [ad_comm] at j1
    exact ad_move j1
  have hop := opL_lt h hX hSb
  have hA1 : Bd F (fun n => ad (Om F b es) (opL F (lX es) (co Sl)) (n + R)) := fun n => (hOb.ad hop) (n + R)
  have hA2 : ad (Om F b es) (opL F (lX es) (co Sl)) = shN R (fun n => ad (Om F b es) (opL F (lX es) (co Sl)) (n + R)) := by
    funext n
    rw [shN_at]
    by_cases hn : n < R
    · rw [if_pos hn]
      show opL F (lX es) (SI F b es) n ^^^ opL F (lX es) (co Sl) n = 0
      rw [opL_below hSI (lX es) n hn, Nat.xor_self]
    · rw [if_neg hn, show n - R + R = n by omega]
  have hA3 : ∀ n, Sl.length + es.length ≤ n → ad (Om F b es) (opL F (lX es) (co Sl)) (n + R) = 0 := fun n hn => by
    show Om F b es (n + R) ^^^ opL F (lX es) (co Sl) (n + R) = 0
    rw [hOs _ (by omega), opL_supp (co_supp Sl) (lX es) _ (by omega)]; rfl
  generalize (fun n => ad (Om F b es) (opL F (lX es) (co Sl)) (n + R)) = A at *
  have hA3' : ∀ n, Sl.length + es.length ≤ n → A n = 0 := fun n hn => by
    have e := congrFun hA2 (n + R)
    rw [shN_at, if_neg (by omega), show n + R - R = n by omega] at e
    rw [← e]; exact hA3 n hn
  have hsM : co s = ml F M A := by
    apply shN_inj (R := R)
    rw [hsR, ht Sl hS, hrM, ← opL_ml h hM hX hSb, ← ml_ad h hM hOb hop, hA2, ml_shN hM]
  -- the unit
  have hZ1 : Bd F (ad (ml F tL A) (opL F (lX es) (co sL))) := (ml_lt h I.ltL).ad (opL_lt h hX (Ls.co hsL))
  have hZ2 : ∀ n, Sl.length + es.length + tL.length + sL.length ≤ n → ad (ml F tL A) (opL F (lX es) (co sL)) n = 0 := fun n hn => by
    show ml F tL A n ^^^ opL F (lX es) (co sL) n = 0
    rw [ml_supp hA3' tL n (by omega), opL_supp (co_supp sL) (lX es) n (by omega)]; rfl
  have hZ3 : ml F M (ad (ml F tL A) (opL F (lX es) (co sL))) = dl := by
    rw [ml_ad h hM (ml_lt h I.ltL) (opL_lt h hX (Ls.co hsL)), ← j3]
    congr 1
    · rw [ml_co h hs I.ltL, hsM, ml_comm h I.ltL hM hA1]
    · rw [← hg3, opL_ml h hsL hX hMb, ml_co h hsL hM, opL_ml h hM hX (Ls.co hsL)]
  obtain ⟨hM1, hM2⟩ := prod_one h hM hZ1 hZ2 hZ3
  have hm0 : 0 < M.getD 0 0 := by
    rcases Nat.eq_zero_or_pos (M.getD 0 0) with h1 | h1
    · rw [h1, zero_mul] at hM2; cases hM2
    · exact h1
  have hM0 : M.getD 0 0 < F.s := hMb 0
  have cMs : co M = sc F (M.getD 0 0) dl := by
    funext n
    cases n with
    | zero => show M.getD 0 0 = mul F _ 1; rw [mul_one h hM0]
    | succ n => rw [hM1 (n + 1) (by omega)]; exact (mul_zero F _).symm
  refine ⟨M.getD 0 0, hm0, hM0, ?_, ?_⟩
  · rw [← hg3, cMs, opL_sc h hM0 hX (Bd.dl h)]
  · rw [hrM, ← cO, ml_co h hM hO, cMs, ml_sc h hM0 hO (Bd.dl h), ml_dl h hO]
end
end Go.Proofs.Ytibdeekgcbmofaa.Gf
