/-
  PLAIN: the decoder mends as many errors as it is meant for.
-/
import Derived.Test.YtibdeekgcbmofaaKm7
namespace Go.Proofs.Ytibdeekgcbmofaa.Gf
open Go.Proofs.Ytibdeekgcbmofaa

theorem esOf_nil (F : Fd) : ∀ (e : List Nat), esOf F e = [] → e = List.replicate e.length 0
  | [], _ => rfl
  | y :: r, hn => by
    by_cases h0 : y = 0
    · rw [esOf, if_pos h0] at hn
      rw [h0, List.length_cons, List.replicate_succ, ← esOf_nil F r hn]
    · rw [esOf, if_neg h0] at hn; cases hn
theorem evF_congr {F : Fd} (a : Nat) : ∀ (d : Nat) {f g : Nat → Nat}, (∀ n, n < d → f n = g n) → evF F a d f = evF F a d g
  | 0, _, _, _ => rfl
  | d + 1, f, g, hg => by
    show f 0 ^^^ mul F a (evF F a d (sl f)) = g 0 ^^^ mul F a (evF F a d (sl g))
    rw [hg 0 (by omega), evF_congr a d (f := sl f) (g := sl g) (fun n hn => hg (n + 1) (by omega))]
theorem denF_nil (F : Fd) (X d : Nat) : denF F X [] d = d := rfl
section
variable {F : Fd} (h : Ok F)
include h
theorem ev_co {a : Nat} (ha : a < F.s) : ∀ (xs : List Nat), (∀ x ∈ xs, x < F.s) → ev F a xs = evF F a xs.length (co xs.reverse)
  | [], _ => rfl
  | x :: xs, hx => by
    have hx0 := hx x (List.mem_cons_self ..)
    have hxs : ∀ z ∈ xs, z < F.s := fun z hz => hx z (List.mem_cons_of_mem _ hz)
    have e1 : ∀ n, n < xs.length → co (x :: xs).reverse n = co xs.reverse n := fun n hn => by
      rw [rev_getD, rev_getD, if_pos (by rw [List.length_cons]; omega), if_pos hn, List.length_cons, show xs.length + 1 - 1 - n = (xs.length - 1 - n) + 1 by omega, List.getD_cons_succ]
    have e2 : co (x :: xs).reverse xs.length = x := by
      rw [rev_getD, if_pos (by rw [List.length_cons]; omega), List.length_cons, show xs.length + 1 - 1 - xs.length = 0 by omega, List.getD_cons_zero]
    rw [ev_cons h ha x xs hx0 hxs, List.length_cons, evF_snoc h ha xs.length (Ls.co (ls_rev hx)), evF_congr a xs.length e1, e2, ← ev_co ha xs hxs, pw_pk, Nat.xor_comm]
theorem syn_ok (R : Nat) {c e : List Nat} (hl : c.length = e.length) (hn : e.length ≤ F.s - 1) (hc : ∀ x ∈ c, x < F.s) (he : ∀ x ∈ e, x < F.s) (hroot : ∀ i, i < R → ev F (ex F (i + F.b)) c = 0) :
    synL F R (xo c e) = (List.range R).map (SI F F.b (esOf F e)) := by
  unfold synL
  refine List.map_congr_left fun i hi => ?_
  rw [ev_xo h (ex_lt h _) c e hl hc he, hroot i (List.mem_range.1 hi), Nat.zero_xor, ev_sum h _ e he, SI_sum h F.b i (esOf_errs h e hn he), Nat.add_comm]
theorem opL_zr : ∀ {Xs : List Nat}, Ls F Xs → opL F Xs zr = zr
  | [], _ => rfl
  | X :: Xs, hX => by
    show ml F [1, X] (opL F Xs zr) = zr
    rw [opL_zr (fun x hx => hX x (List.mem_cons_of_mem _ hx)), ml_zr h (l1 h (hX X (List.mem_cons_self ..)))]
theorem Om_zero {b : Nat} {es : List (Nat × Nat)} (he : Errs F es) {R : Nat} (hR : es.length ≤ R) (hz : ∀ n, n < R → SI F b es n = 0) (hne : es ≠ []) : False := by
  obtain ⟨⟨X, Y⟩, hm⟩ := List.exists_mem_of_ne_nil es hne
  have h1 := Om_ne h b he hm
  have h2 : ∀ n, Om F b es n = 0 := fun n => by
    by_cases hn : n < R
    · show opL F (lX es) (SI F b es) n = 0
      rw [opL_below (g := zr) hz (lX es) n hn, opL_zr h he.ls]; rfl
    · exact Om_supp h b he n (by omega)
  rw [evF_zero (inv F X) es.length h2] at h1
  omega
theorem opL_at0 : ∀ {Xs : List Nat}, Ls F Xs → opL F Xs dl 0 = 1
  | [], _ => rfl
  | X :: Xs, hX => by
    have hXs : Ls F Xs := fun x hx => hX x (List.mem_cons_of_mem _ hx)
    show ml F [1, X] (opL F Xs dl) 0 = 1
    rw [ml_zero, List.getD_cons_zero, opL_at0 hXs, mul_one h (by have := s_ge4 h; omega)]
omit h in
theorem opL_top {X : Nat} {Xs : List Nat} : opL F (X :: Xs) dl (Xs.length + 1) = mul F X (opL F Xs dl Xs.length) := by
  have e := ml_top (F := F) (D := Xs.length) (f := opL F Xs dl) (fun n hn => opL_supp dl_supp Xs n (by omega)) [1, X] 1 rfl
  show ml F [1, X] (opL F Xs dl) (Xs.length + 1) = _
  rw [Nat.add_comm, e]; rfl
theorem opL_topPos : ∀ {Xs : List Nat}, Ls F Xs → (∀ X ∈ Xs, 0 < X) → 0 < opL F Xs dl Xs.length
  | [], _, _ => Nat.one_pos
  | X :: Xs, hX, hp => by
    have hXs : Ls F Xs := fun x hx => hX x (List.mem_cons_of_mem _ hx)
    rw [List.length_cons, opL_top]
    exact mul_pos h (hp X (List.mem_cons_self ..)) (hX X (List.mem_cons_self ..)) (opL_topPos hXs (fun x hx => hp x (List.mem_cons_of_mem _ hx))) (opL_lt h hXs (Bd.dl h) _)
theorem inv_inv {X : Nat} (h0 : 0 < X) (hX : X < F.s) : inv F (inv F X) = X :=
  (inv_uniq h (inv_pos h X) (inv_lt h X) hX (inv_mul h h0 hX)).symm
theorem prX_iff {a : Nat} (ha : a < F.s) (a0 : 0 < a) {Xs : List Nat} (hX : Ls F Xs) (hp : ∀ X ∈ Xs, 0 < X) : prX F a Xs = 0 ↔ a ∈ Xs.map (inv F) := by
  constructor
  · intro hz
    apply Classical.byContradiction
    intro hn
    have := prX_pos h ha (Xs := Xs) (fun X hm he => hn (List.mem_map.2 ⟨X, hm, by
      rw [mul_comm h ha (hX X hm)] at he
      exact (inv_uniq h (hp X hm) (hX X hm) ha he).symm⟩))
    omega
  · intro hm
    obtain ⟨X, hq, rfl⟩ := List.mem_map.1 hm
    exact prX_zero X hq (inv_mul h (hp X hq) (hX X hq))
theorem nodup_inv {Xs : List Nat} (hX : Ls F Xs) (hp : ∀ X ∈ Xs, 0 < X) (hn : Xs.Nodup) : (Xs.map (inv F)).Nodup := by
  induction Xs with
  | nil => exact List.nodup_nil
  | cons X r ih =>
    have h1 := List.nodup_cons.1 hn
    refine List.nodup_cons.2 ⟨fun hm => ?_, ih (fun x hx => hX x (List.mem_cons_of_mem _ hx)) (fun x hx => hp x (List.mem_cons_of_mem _ hx)) h1.2⟩
    obtain ⟨Z, hz, he⟩ := List.mem_map.1 hm
    have e := congrArg (inv F) he
    rw [inv_inv h (hp Z (List.mem_cons_of_mem _ hz)) (hX Z (List.mem_cons_of_mem _ hz)), inv_inv h (hp X (List.mem_cons_self ..)) (hX X (List.mem_cons_self ..))] at e
    rw [e] at hz
    exact h1.1 hz
/-- The roots of the locator. -/
theorem roots_perm {Xs sg : List Nat} (hX : Ls F Xs) (hp : ∀ X ∈ Xs, 0 < X) (hn : Xs.Nodup) (hsg : ∀ x ∈ sg, x < F.s) (hl : sg.length = Xs.length + 1) (hco : co sg.reverse = opL F Xs dl) :
    ((List.range' 1 (F.s - 1)).filter fun i => ev F i sg == 0).Perm (Xs.map (inv F)) := by
  refine perm_of _ _ (List.Pairwise.filter _ List.nodup_range') (nodup_inv h hX hp hn) fun i => ?_
  have key : i < F.s → ev F i sg = prX F i Xs := fun hi => by
    have e := evF_opL h hi hX (d := 1) (Bd.dl h) dl_supp
    rw [ev_co h hi sg hsg, hl, hco, Nat.add_comm, e]
    show mul F (prX F i Xs) (1 ^^^ mul F i 0) = _
    rw [mul_zero, show (1 : Nat) ^^^ 0 = 1 from rfl, mul_one h (prX_lt h i hi Xs)]
  rw [List.mem_filter, List.mem_range', beq_iff_eq]
  constructor
  · intro ⟨⟨k, hk, hi⟩, hz⟩
    have h1 : i < F.s := by omega
    rw [key h1] at hz
    exact (prX_iff h h1 (by omega) hX hp).1 hz
  · intro hm
    have hm' := hm
    obtain ⟨X, _, rfl⟩ := List.mem_map.1 hm
    have h1 := inv_lt h X
    have h2 := inv_pos h X
    refine ⟨⟨inv F X - 1, by omega, by omega⟩, ?_⟩
    rw [key h1]
    exact (prX_iff h h1 h2 hX hp).2 hm'
theorem locs_ok {Xs sg : List Nat} (hX : Ls F Xs) (hp : ∀ X ∈ Xs, 0 < X) (hn : Xs.Nodup) (hsg : ∀ x ∈ sg, x < F.s) (hl : sg.length = Xs.length + 1) (hco : co sg.reverse = opL F Xs dl) :
    ∃ L, locs F sg = some L ∧ L.Perm Xs := by
  unfold locs
  by_cases h1 : sg.length = 2
  · rw [if_pos h1]
    obtain ⟨X, rfl⟩ : ∃ X, Xs = [X] := by
      rcases Xs with _ | ⟨X, _ | ⟨Z, r⟩⟩
      · rw [List.length_nil] at hl; omega
      · exact ⟨X, rfl⟩
      · simp only [List.length_cons] at hl; omega
    refine ⟨_, rfl, ?_⟩
    have e := congrFun hco 1
    rw [rev_getD, if_pos (by omega), h1] at e
    have e2 : opL F [X] dl 1 = mul F X (opL F [] dl 0) := opL_top
    rw [e2] at e
    have e3 : sg.getD 0 0 = X := e.trans (mul_one h (hX X (List.mem_cons_self ..)))
    rw [e3]
  · rw [if_neg h1]
    have hr := roots_perm h hX hp hn hsg hl hco
    have hlen := hr.length_eq
    rw [List.length_map] at hlen
    rw [List.take_of_length_le (by omega), if_pos (by omega)]
    refine ⟨_, rfl, (hr.map (inv F)).trans ?_⟩
    have e : (Xs.map (inv F)).map (inv F) = Xs := by
      rw [List.map_map]
      refine (List.map_congr_left (g := id) fun X hm => ?_).trans (List.map_id Xs)
      exact inv_inv h (hp X hm) (hX X hm)
    rw [e]
theorem prO_perm {a X : Nat} (ha : a < F.s) {A B : List Nat} (hp : A.Perm B) (hA : Ls F A) : prO F a X A = prO F a X B := by
  induction hp with
  | nil => rfl
  | cons x _ ih =>
    unfold prO
    rw [ih (fun z hz => hA z (List.mem_cons_of_mem _ hz))]
  | swap x y l =>
    have hx := hA x (List.mem_cons_of_mem _ (List.mem_cons_self ..))
    have hy := hA y (List.mem_cons_self ..)
    have h1 : 1 < F.s := by have := s_ge4 h; omega
    have b1 : 1 ^^^ mul F a x < F.s := xlt h1 (mul_lt h _ ha)
    have b2 : 1 ^^^ mul F a y < F.s := xlt h1 (mul_lt h _ ha)
    have b3 := prO_lt h ha X l
    simp only [prO]
    by_cases c1 : x = X
    · rw [if_pos c1, if_pos c1]
    · rw [if_neg c1, if_neg c1]
      by_cases c2 : y = X
      · rw [if_pos c2, if_pos c2]
      · rw [if_neg c2, if_neg c2, ← mul_assoc h b2 b1 b3, mul_comm h b2 b1, mul_assoc h b1 b2 b3]
  | trans h1 _ i1 i2 => exact (i1 hA).trans (i2 fun z hz => hA z (h1.mem_iff.2 hz))
theorem denF_prO {X : Nat} : ∀ (L : List Nat) (d : Nat), Ls F L → d < F.s → denF F X L d = mul F d (prO F (inv F X) X L)
  | [], d, _, hd => (mul_one h hd).symm
  | Z :: L, d, hL, hd => by
    have hZ := hL Z (List.mem_cons_self ..)
    have hL' : Ls F L := fun z hz => hL z (List.mem_cons_of_mem _ hz)
    have ha := inv_lt h X
    have h1 : 1 < F.s := by have := s_ge4 h; omega
    have b1 : 1 ^^^ mul F (inv F X) Z < F.s := xlt h1 (mul_lt h _ ha)
    show denF F X L (if Z = X then d else mul F d (mul F Z (inv F X) ^^^ 1)) = mul F d (if Z = X then prO F (inv F X) X L else mul F (1 ^^^ mul F (inv F X) Z) (prO F (inv F X) X L))
    by_cases c : Z = X
    · rw [if_pos c, if_pos c, denF_prO L d hL' hd]
    · rw [if_neg c, if_neg c, denF_prO L _ hL' (mul_lt h _ hd), mul_comm h hZ ha, Nat.xor_comm _ 1, mul_assoc h hd b1 (prO_lt h ha X L)]
theorem mag_ok (hb : F.b ≤ 1) {es : List (Nat × Nat)} (he : Errs F es) {om L : List Nat} (hom : ∀ x ∈ om, x < F.s) (hco : co om.reverse = Om F F.b es) (hL : L.Perm (lX es)) {X Y : Nat} (hm : (X, Y) ∈ es) : mag F om L X = Y := by
  have hx := he.x0 _ hm
  have hy := he.y0 _ hm
  have ha := inv_lt h X
  have hLl : Ls F L := fun z hz => he.ls z (hL.mem_iff.1 hz)
  have e1 : ev F (inv F X) om = mul F (mul F Y (pk F X F.b)) (prO F (inv F X) X (lX es)) := by
    have s1 : ∀ n, om.length ≤ n → Om F F.b es n = 0 := fun n hn => by
      rw [← hco]; exact co_supp _ n (by rw [List.length_reverse]; omega)
    have s2 := Om_supp h F.b he
    rw [ev_co h ha om hom, hco, ← Om_at h F.b he hm, ← evF_to (F := F) (inv F X) s1 (Nat.le_max_left om.length es.length), ← evF_to (F := F) (inv F X) s2 (Nat.le_max_right om.length es.length)]
  have h1 : 1 < F.s := by have := s_ge4 h; omega
  have e2 : denF F X L 1 = prO F (inv F X) X (lX es) := by
    rw [denF_prO h L 1 hLl h1, one_mul h (prO_lt h ha X L), prO_perm h ha hL hLl]
  have hP := prO_lt h ha X (lX es)
  have hP0 : 0 < prO F (inv F X) X (lX es) := prO_pos h ha (lX es) fun Z hz hne => inv_ne h hx.1 hx.2 (he.pos Z hz) (he.ls Z hz) (fun hc => hne hc.symm)
  have hpk := pk_lt h hx.2 F.b
  have e3 : mul F (ev F (inv F X) om) (inv F (denF F X L 1)) = mul F Y (pk F X F.b) := by
    rw [e1, e2, mul_assoc h (mul_lt h _ hy.2) hP (inv_lt h _), mul_inv h hP0 hP, mul_one h (mul_lt h _ hy.2)]
  unfold mag
  rw [e3]
  by_cases c : F.b = 0
  · rw [if_pos c, c]
    exact mul_one h hy.2
  · rw [if_neg c, show F.b = 1 by omega]
    show mul F (mul F Y (mul F X 1)) (inv F X) = Y
    rw [mul_one h hx.2, mul_assoc h hy.2 hx.2 ha, mul_inv h hx.1 hx.2, mul_one h hy.2]
end
end Go.Proofs.Ytibdeekgcbmofaa.Gf
