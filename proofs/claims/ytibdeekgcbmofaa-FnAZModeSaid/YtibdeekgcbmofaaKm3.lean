/-
  PLAIN: the series that errors make; what the algorithm of Euclid ends with.
-/
import Derived.Test.YtibdeekgcbmofaaKm2
namespace Go.Proofs.Ytibdeekgcbmofaa.Gf

def shN : Nat → (Nat → Nat) → Nat → Nat
  | 0, f => f
  | n + 1, f => sh (shN n f)
theorem shN_at : ∀ (R : Nat) (f : Nat → Nat) (n : Nat), shN R f n = if n < R then 0 else f (n - R)
  | 0, f, n => by rw [if_neg (by omega)]; rfl
  | R + 1, f, 0 => by rw [if_pos (by omega)]; rfl
  | R + 1, f, n + 1 => by
    show shN R f n = _
    rw [shN_at R f n]
    by_cases hn : n < R
    · rw [if_pos hn, if_pos (by omega)]
    · rw [if_neg hn, if_neg (by omega)]
      congr 1; omega
theorem shN_ad : ∀ (R : Nat) (f g : Nat → Nat), shN R (ad f g) = ad (shN R f) (shN R g)
  | 0, _, _ => rfl
  | R + 1, f, g => by show sh (shN R (ad f g)) = _; rw [shN_ad R, sh_ad]; rfl
theorem shN_inj {R : Nat} {f g : Nat → Nat} (he : shN R f = shN R g) : f = g := by
  funext n
  have e := congrFun he (n + R)
  rw [shN_at, shN_at, if_neg (by omega), if_neg (by omega)] at e
  rwa [show n + R - R = n by omega] at e
theorem Bd.shN {F : Fd} {f : Nat → Nat} (hf : Bd F f) : ∀ R, Bd F (shN R f)
  | 0 => hf
  | R + 1 => (Bd.shN hf R).sh
theorem ml_shN {F : Fd} {p : List Nat} (hp : Ls F p) : ∀ (R : Nat) (f : Nat → Nat), ml F p (shN R f) = shN R (ml F p f)
  | 0, _ => rfl
  | R + 1, f => by
    show ml F p (sh (shN R f)) = sh (shN R (ml F p f))
    rw [ml_sh hp, ml_shN hp R f]
/-- The list of a finite series. -/
def ofF (f : Nat → Nat) (d : Nat) : List Nat := (List.range d).map f
theorem ofF_len (f : Nat → Nat) (d : Nat) : (ofF f d).length = d := by simp [ofF]
theorem ofF_ls {F : Fd} {f : Nat → Nat} (hf : Bd F f) (d : Nat) : Ls F (ofF f d) := fun x hx => by
  obtain ⟨i, _, rfl⟩ := List.mem_map.1 hx; exact hf i
theorem co_ofF {f : Nat → Nat} {d : Nat} (hd : ∀ n, d ≤ n → f n = 0) : co (ofF f d) = f := by
  funext n
  show ((List.range d).map f).getD n 0 = f n
  by_cases hn : n < d
  · rw [List.getD, List.getElem?_map, List.getElem?_range hn]; rfl
  · rw [List.getD, List.getElem?_eq_none (by simp; omega), hd n (by omega)]; rfl
theorem co_supp (p : List Nat) : ∀ n, p.length ≤ n → co p n = 0 := fun n hn => by
  show p.getD n 0 = 0
  rw [List.getD, List.getElem?_eq_none hn]; rfl

/-! ### Errors: their places X and what they add, Y -/
def geo (F : Fd) (X : Nat) : Nat → Nat := pk F X
def SI (F : Fd) (b : Nat) : List (Nat × Nat) → Nat → Nat
  | [] => zr
  | (X, Y) :: es => ad (sc F (mul F Y (pk F X b)) (geo F X)) (SI F b es)
def lX (es : List (Nat × Nat)) : List Nat := es.map Prod.fst
def Om (F : Fd) (b : Nat) (es : List (Nat × Nat)) : Nat → Nat := opL F (lX es) (SI F b es)
structure Errs (F : Fd) (es : List (Nat × Nat)) : Prop where
  x0 : ∀ e ∈ es, 0 < e.1 ∧ e.1 < F.s
  y0 : ∀ e ∈ es, 0 < e.2 ∧ e.2 < F.s
  nd : (lX es).Nodup
theorem Errs.tail {F : Fd} {e : Nat × Nat} {es : List (Nat × Nat)} (h : Errs F (e :: es)) : Errs F es :=
  ⟨fun x hx => h.x0 x (List.mem_cons_of_mem _ hx), fun x hx => h.y0 x (List.mem_cons_of_mem _ hx), (List.nodup_cons.1 h.nd).2⟩
theorem Errs.ls {F : Fd} {es : List (Nat × Nat)} (h : Errs F es) : Ls F (lX es) := fun x hx => by
  obtain ⟨e, he, rfl⟩ := List.mem_map.1 hx; exact (h.x0 e he).2
theorem Errs.pos {F : Fd} {es : List (Nat × Nat)} (h : Errs F es) : ∀ X ∈ lX es, 0 < X := fun x hx => by
  obtain ⟨e, he, rfl⟩ := List.mem_map.1 hx; exact (h.x0 e he).1
theorem lX_len (es : List (Nat × Nat)) : (lX es).length = es.length := by simp [lX]
section
variable {F : Fd} (h : Ok F)
include h
theorem geo_lt {X : Nat} (hX : X < F.s) : Bd F (geo F X) := fun n => pk_lt h hX n
theorem ml_geo {X : Nat} (hX : X < F.s) : ml F [1, X] (geo F X) = dl := by
  funext n
  cases n with
  | zero =>
    show mul F 1 1 ^^^ 0 = 1
    rw [one_mul h (by have := s_ge4 h; omega), Nat.xor_zero]
  | succ n =>
    show mul F 1 (mul F X (pk F X n)) ^^^ (mul F X (pk F X n) ^^^ sh zr n) = 0
    rw [one_mul h (mul_lt h _ hX), sh_zr]
    show _ ^^^ (_ ^^^ 0) = 0
    rw [Nat.xor_zero, Nat.xor_self]
theorem SI_lt (b : Nat) : ∀ {es : List (Nat × Nat)}, Errs F es → Bd F (SI F b es)
  | [], _ => Bd.zr F
  | (_, _) :: _, he => (Bd.sc h (mul_lt h _ (he.y0 _ (List.mem_cons_self ..)).2)).ad (SI_lt b he.tail)
theorem Om_cons (b : Nat) {X Y : Nat} {es : List (Nat × Nat)} (he : Errs F ((X, Y) :: es)) : Om F b ((X, Y) :: es) = ad (sc F (mul F Y (pk F X b)) (opL F (lX es) dl)) (ml F [1, X] (Om F b es)) := by
  have hX := (he.x0 _ (List.mem_cons_self ..)).2
  have hY := (he.y0 _ (List.mem_cons_self ..)).2
  have hc : mul F Y (pk F X b) < F.s := mul_lt h _ hY
  have hl := he.tail.ls
  show ml F [1, X] (opL F (lX es) (ad (sc F (mul F Y (pk F X b)) (geo F X)) (SI F b es))) = _
  rw [opL_ad h hl (Bd.sc h hc) (SI_lt h b he.tail), ml_ad h (l1 h hX) (opL_lt h hl (Bd.sc h hc)) (opL_lt h hl (SI_lt h b he.tail)),
    opL_ml h (l1 h hX) hl (Bd.sc h hc), ml_sc h hc (l1 h hX) (geo_lt h hX), ml_geo h hX, opL_sc h hc hl (Bd.dl h)]
  rfl
theorem Om_lt (b : Nat) {es : List (Nat × Nat)} (he : Errs F es) : Bd F (Om F b es) := opL_lt h he.ls (SI_lt h b he)
omit h in
theorem dl_supp : ∀ n, 1 ≤ n → dl n = 0 := fun n hn => by
  cases n with
  | zero => omega
  | succ n => rfl
theorem Om_supp (b : Nat) : ∀ {es : List (Nat × Nat)}, Errs F es → ∀ n, es.length ≤ n → Om F b es n = 0
  | [], _, _, _ => rfl
  | (X, Y) :: es, he, n, hn => by
    rw [List.length_cons] at hn
    rw [Om_cons h b he]
    show mul F _ (opL F (lX es) dl n) ^^^ ml F [1, X] (Om F b es) n = 0
    rw [opL_supp (F := F) dl_supp (lX es) n (by rw [lX_len]; omega), mul_zero, Nat.zero_xor]
    exact ml_supp (Om_supp b he.tail) [1, X] n (by simp; omega)
/-- The product over the other places. -/
def prO (F : Fd) (a X : Nat) : List Nat → Nat
  | [] => 1
  | Z :: Zs => if Z = X then prO F a X Zs else mul F (1 ^^^ mul F a Z) (prO F a X Zs)
omit h in
theorem prO_out {a X : Nat} : ∀ {Zs : List Nat}, X ∉ Zs → prO F a X Zs = prX F a Zs
  | [], _ => rfl
  | Z :: Zs, hX => by
    rw [List.mem_cons, not_or] at hX
    show (if Z = X then _ else _) = _
    rw [if_neg (fun he => hX.1 he.symm), prO_out hX.2]
    rfl
theorem prO_lt {a : Nat} (ha : a < F.s) (X : Nat) : ∀ (Zs : List Nat), prO F a X Zs < F.s
  | [] => by have := s_ge4 h; show 1 < F.s; omega
  | Z :: Zs => by
    show (if Z = X then _ else _) < F.s
    split
    · exact prO_lt ha X Zs
    · exact mul_lt h _ (xlt (by have := s_ge4 h; omega) (mul_lt h _ ha))
theorem prO_pos {a X : Nat} (ha : a < F.s) : ∀ (Zs : List Nat), (∀ Z ∈ Zs, Z ≠ X → mul F a Z ≠ 1) → 0 < prO F a X Zs
  | [], _ => Nat.one_pos
  | Z :: Zs, hz => by
    have ih := prO_pos ha Zs (fun Y hY => hz Y (List.mem_cons_of_mem _ hY))
    show 0 < (if Z = X then _ else _)
    split
    · exact ih
    · rename_i hne
      exact mul_pos h (xor_one_ne (hz Z (List.mem_cons_self ..) hne)) (xlt (by have := s_ge4 h; omega) (mul_lt h _ ha)) ih (prO_lt h ha X Zs)
/-- What the evaluator says at an error's place. -/
theorem Om_at (b : Nat) : ∀ {es : List (Nat × Nat)}, Errs F es → ∀ {X Y : Nat}, (X, Y) ∈ es → evF F (inv F X) es.length (Om F b es) = mul F (mul F Y (pk F X b)) (prO F (inv F X) X (lX es))
  | [], _, X, Y, hm => by cases hm
  | (X0, Y0) :: es, he, X, Y, hm => by
    have hX0 := he.x0 _ (List.mem_cons_self ..)
    have hY0 := (he.y0 _ (List.mem_cons_self ..)).2
    have hXm := he.x0 _ hm
    have ha := inv_lt h X
    have hc : mul F Y0 (pk F X0 b) < F.s := mul_lt h _ hY0
    have hl := he.tail.ls
    have hOl := Om_lt h b he.tail
    have hOs := Om_supp h b he.tail
    have hnd := List.nodup_cons.1 he.nd
    -- the value of both parts
    have e1 : evF F (inv F X) (es.length + 1) (opL F (lX es) dl) = prX F (inv F X) (lX es) := by
      have e := evF_opL h ha hl (d := 1) (Bd.dl h) dl_supp
      rw [lX_len, Nat.add_comm] at e
      rw [e]
      have e9 : evF F (inv F X) 1 dl = 1 := by
        show 1 ^^^ mul F _ 0 = 1
        rw [mul_zero]; rfl
      rw [e9, mul_one h (prX_lt h _ ha _)]
    have e2 : evF F (inv F X) (es.length + 1) (ml F [1, X0] (Om F b es)) = mul F (1 ^^^ mul F (inv F X) X0) (evF F (inv F X) es.length (Om F b es)) := by
      have e := evF_ml h ha hOl hOs (l1 h hX0.2)
      have e9 : evF F (inv F X) (es.length + [1, X0].length) (ml F [1, X0] (Om F b es)) = evF F (inv F X) (es.length + 1) (ml F [1, X0] (Om F b es)) :=
        evF_to _ (d := es.length + 1) (fun n hn => ml_supp hOs [1, X0] n (by simp; omega)) (by simp)
      rw [e9] at e
      rw [e]
      congr 1
      show 1 ^^^ mul F (inv F X) (X0 ^^^ mul F (inv F X) 0) = _
      rw [mul_zero, Nat.xor_zero]
    rw [Om_cons h b he]
    show evF F (inv F X) (es.length + 1) (ad _ _) = _
    rw [evF_ad h ha _ (Bd.sc h hc) (ml_lt h (l1 h hX0.2)), evF_sc h ha hc _ (opL_lt h hl (Bd.dl h)), e1, e2]
    by_cases hXX : X = X0
    · subst hXX
      have hnm : X ∉ lX es := hnd.1
      have hYY : Y = Y0 := by
        rcases List.mem_cons.1 hm with h1 | h1
        · injection h1
        · exact absurd (List.mem_map.2 ⟨(X, Y), h1, rfl⟩) hnm
      subst hYY
      rw [inv_mul h hXm.1 hXm.2, Nat.xor_self, zero_mul, Nat.xor_zero]
      congr 1
      show _ = (if X = X then _ else _)
      rw [if_pos rfl]
      exact (prO_out hnm).symm
    · have hm' : (X, Y) ∈ es := by
        rcases List.mem_cons.1 hm with h1 | h1
        · injection h1 with h2; exact absurd h2 hXX
        · exact h1
      have ih := Om_at b he.tail hm'
      have hY := (he.y0 _ hm).2
      have hXl : X ∈ lX es := List.mem_map.2 ⟨(X, Y), hm', rfl⟩
      rw [prX_zero X hXl (inv_mul h hXm.1 hXm.2), mul_zero, Nat.zero_xor, ih]
      show _ = mul F (mul F Y (pk F X b)) (if X0 = X then prO F (inv F X) X (lX es) else mul F (1 ^^^ mul F (inv F X) X0) (prO F (inv F X) X (lX es)))
      rw [if_neg (fun hh => hXX hh.symm)]
      have h3 : 1 ^^^ mul F (inv F X) X0 < F.s := xlt (by have := s_ge4 h; omega) (mul_lt h _ ha)
      have h4 : mul F Y (pk F X b) < F.s := mul_lt h _ hY
      have h5 := prO_lt h ha X (lX es)
      rw [← mul_assoc h h3 h4 h5, mul_comm h h3 h4, mul_assoc h h4 h3 h5]
theorem Om_ne (b : Nat) {es : List (Nat × Nat)} (he : Errs F es) {X Y : Nat} (hm : (X, Y) ∈ es) : 0 < evF F (inv F X) es.length (Om F b es) := by
  have hX := he.x0 _ hm
  have hY := he.y0 _ hm
  rw [Om_at h b he hm]
  have h1 := mul_pos h hY.1 hY.2 (pk_pos h hX.1 hX.2 b) (pk_lt h hX.2 b)
  exact mul_pos h h1 (mul_lt h _ hY.2) (prO_pos h (inv_lt h X) (lX es) (fun Z hZ hne => by
    obtain ⟨e, he', rfl⟩ := List.mem_map.1 hZ
    exact inv_ne h hX.1 hX.2 (he.x0 e he').1 (he.x0 e he').2 hne.symm)) (prO_lt h (inv_lt h X) X _)
end
end Go.Proofs.Ytibdeekgcbmofaa.Gf
