/-
  WALKS: spec.RSTidy, impl.poly, GetCoefficient, laws.rsPoly, impl.PolyCoefficient, and the law of coefficients. WALKS: sums and products of elements as the package makes them; IsZero, GetZero, GetCoefficients. PLAIN: products of polynomials over a field, as two nested loops make them. WALKS: spec.RSProduct. GROUND, MORE: pointers that are compared with themselves. WALKS: the product of two polynomials, as the package makes it.
-/
import Derived.Test.YtopfdmmimgnciaaGreatDoorV07
import Derived.Test.YtopfdmmimgnciaaGreatDoorV02
import Derived.Test.YtopfdmmimgnciaaGreatDoorV01
import Derived.LaidEqlPtr
namespace Go.Proofs.YtopfdmmimgnciaaGreatDoor
open Go.RowKit

theorem nv_one (xs : List Nat) : ∀ u ∈ nv xs, u.oneCell' = true := fun u hu => by
  simp only [nv, List.mem_map] at hu
  obtain ⟨x, _, rfl⟩ := hu
  rfl
theorem nv_drop (xs : List Nat) (k : Nat) : nv (xs.drop k) = (nv xs).drop k := by simp [nv]

set_option maxRecDepth 100000 in
set_option maxHeartbeats 1000000 in
/-- spec.RSTidy. -/
theorem tidy_any (l : Value) (xs : List Nat) (w : World) (hl : Rd w w.heap.size l (nv xs)) (hne : xs ≠ []) (h4 : xs.length ≤ 65536) :
    Calls Tryz.prog 85 #[l] w fun e w' => ∃ v, e = .returned v ∧ RdT w' 3 v (nv (tidy xs)) ∧ Below w.heap.size w w' := by
  have hpos : 0 < xs.length := by rcases xs with _ | ⟨x, r⟩; exact absurd rfl hne; simp
  have hl0 := hl
  obtain ⟨A, ca, rfl, ha1, ha2, ha3⟩ := hl
  simp only [nv_len] at *
  unfold maxLen at ha2
  obtain ⟨ba, oa, rfl, hba, hca⟩ := ha3 hpos
  have HL := Lib.hid hl0; clear hl0
  have HC := Lib.hid hca; clear hca
  clear hne ha3
  obtain ⟨i0, hi0, hz0, hz1, hz2⟩ := info_parts info_int
  go_enter Tryz.func85, Tryz.ntmps85
  go_wp2
  go_loop [3] (fun i => ∃ k : Nat, k < xs.length ∧ i = .int .i64 k ∧ Hid (∀ j, j < k → xs.getD j 1 = 0)) (fun i => xs.length - (intOf i).toNat)
  case atStart => exact ⟨0, hpos, rfl, fun j hj => absurd hj (Nat.not_lt_zero _)⟩
  case round =>
    obtain ⟨k, hk, rfl, HZ⟩ := hrel
    have hend : (xs.getD k 0 ≠ 0 ∨ k + 1 = xs.length) → tidy xs = xs.drop k := by
      rintro (h | h)
      · exact tidy_drop k xs HZ.out hk h
      · exact tidy_last k xs HZ.out h
    have HN := Lib.hid hend; clear hend
    by_cases hlt : k + 1 < xs.length
    · have hck := HC.out k _ (nv_at xs k hk)
      by_cases hxk : xs[k] = 0
      · have e2 : (((xs[k] : Nat) : Int) == 0) = true := by simp [hxk]
        have HXK := Lib.hid hxk; clear hxk
        have hlt' : (k : Int) < (xs.length : Int) - 1 := by omega
        go_wp2
        go_round
        case rel => exact ⟨k + 1, hlt, by go_num, fun j hj => by
          by_cases hjk : j < k
          · exact HZ.out j hjk
          · rw [show j = k from by omega, getD_lt _ _ _ hk]; exact HXK.out⟩
        case measure => simp [intOf]; omega
      · have e2 : (((xs[k] : Nat) : Int) == 0) = false := by simp [hxk]
        have ht : tidy xs = xs.drop k := HN.out (.inl (by rw [getD_lt _ _ _ hk]; exact hxk))
        clear HN hxk
        have hlt' : (k : Int) < (xs.length : Int) - 1 := by omega
        have HT := Lib.hid ht; clear ht
        go_wp2_with (at_builtin; refine list_app_rd _ rfl _ _ _ rfl w.heap.size 3 i0 _ 8 Tryz.underlying25 hi0 hz0 hz1 hz2 rfl _ 0 [] rfl
                                        (own_empty (Blk.fresh _ _ _) (Nat.le_refl _)) _ _ (nv (xs.drop k)) rfl (by rw [nv_drop]; exact ((HL.out.below ((Below.refl _ _).alloc (Nat.le_refl _) _)).drop hk)) (nv_one _)
                                        (by rw [nv_len, List.length_drop]; unfold maxLen; omega) (by rw [nv_len, List.length_drop]; omega) (by simp) ?_; intro v1 w1 ho1 hg1)
        go_ret
        refine ⟨_, rfl, ?_, ?_⟩
        · rw [HT.out]; simpa using RdT.of_own ho1
        · exact below_grown (bal (brf w) _) hg1 (own_empty (Blk.fresh _ _ _) (Nat.le_refl _)) (by simp)
    · have ht : tidy xs = xs.drop k := HN.out (.inr (by omega))
      have hlt' : ¬ (k : Int) < (xs.length : Int) - 1 := by omega
      have hd : decide ((k : Int) < (xs.length : Int) - 1) = false := by simpa using hlt'
      clear HN
      have HT := Lib.hid ht; clear ht
      go_wp2_with (at_builtin; refine list_app_rd _ rfl _ _ _ rfl w.heap.size 3 i0 _ 8 Tryz.underlying25 hi0 hz0 hz1 hz2 rfl _ 0 [] rfl
                                        (own_empty (Blk.fresh _ _ _) (Nat.le_refl _)) _ _ (nv (xs.drop k)) rfl (by rw [nv_drop]; exact ((HL.out.below ((Below.refl _ _).alloc (Nat.le_refl _) _)).drop hk)) (nv_one _)
                                        (by rw [nv_len, List.length_drop]; unfold maxLen; omega) (by rw [nv_len, List.length_drop]; omega) (by simp) ?_; intro v1 w1 ho1 hg1)
      go_ret
      refine ⟨_, rfl, ?_, ?_⟩
      · rw [HT.out]; simpa using RdT.of_own ho1
      · exact below_grown (bal (brf w) _) hg1 (own_empty (Blk.fresh _ _ _) (Nat.le_refl _)) (by simp)

/-- GetCoefficient. -/
theorem coefficient_any (q g : Nat) (l : List Nat) (k : Nat) (w : World) (hp : PolyAt w q g l) (hk : k < l.length) :
    Calls Tryz.prog 115 #[.pointer (some ⟨q, 0, none⟩), .int .i64 k] w fun e w' => e = .returned (.int .i64 ((l.getD (l.length - 1 - k) 0 : Nat) : Int)) ∧ Below w.heap.size w w' := by
  obtain ⟨sl, h1, h2⟩ := hp
  obtain ⟨A, ca, rfl, ha1, ha2, ha3⟩ := h2.rd
  simp only [nv_len] at *
  unfold maxLen at ha2
  obtain ⟨ba, oa, rfl, hba, hca⟩ := ha3 (by omega)
  have c1 : w.cell? ⟨q, 1, none⟩ = some (.slice (some ⟨ba, oa, none⟩) l.length ca) := by rw [h1.cell]; rfl
  have c2 := hca (l.length - 1 - k) _ (nv_at l (l.length - 1 - k) (by omega))
  have hi : ((l.length : Int) - 1 - (k : Int)).toNat = l.length - 1 - k := by omega
  have hg : l.getD (l.length - 1 - k) 0 = l[l.length - 1 - k]'(by omega) := getD_lt _ _ _ (by omega)
  rw [hg]
  clear hg ha3 hca h1 h2
  generalize l[l.length - 1 - k]'(by omega) = r at *
  go_enter Tryz.func115, Tryz.ntmps115
  go_wp2
  go_quiet (fail)
  go_wp2
  go_ret
  exact ⟨rfl, bdn (brf w) _⟩

end Go.Proofs.YtopfdmmimgnciaaGreatDoor
namespace Go.Proofs.YtopfdmmimgnciaaGreatDoor
open Go.RowKit

/-- GenericGF_addOrSubtract. -/
theorem add_any (a b : Nat) (ha : a < 65536) (hb : b < 65536) (w : World) :
    Calls Tryz.prog 107 #[.int .i64 a, .int .i64 b] w fun e w' => e = .returned (.int .i64 ((a ^^^ b : Nat) : Int)) ∧ w' = w := by
  have e1 := i64_xor a b (by omega) (by omega)
  go_enter Tryz.func107, Tryz.ntmps107
  go_wp2
  go_ret
  exact ⟨rfl, rfl⟩

/-- (*GenericGF).Multiply. -/
theorem mulGF_any (g : Nat) (F : Gf.Fd) (hF : Gf.Ok F) (h12 : F.m ≤ 12) (a b : Nat) (ha : a < F.s) (hb : b < F.s) (w : World) (hf : FieldAt w g F) :
    Calls Tryz.prog 116 #[.pointer (some ⟨g, 0, none⟩), .int .i64 a, .int .i64 b] w fun e w' => e = .returned (.int .i64 ((Gf.mul F a b : Nat) : Int)) ∧ ∃ n, w' = w.drewN n := by
  have hs4 := Gf.s_ge4 hF
  have hs12 := s_le F h12
  rcases Nat.eq_zero_or_pos a with rfl | ha0
  · rw [Gf.zero_mul]
    go_enter Tryz.func116, Tryz.ntmps116
    go_wp2
    go_ret
    exact ⟨rfl, 0, rfl⟩
  · have e0 : ((a : Int) == 0) = false := by simp; omega
    rcases Nat.eq_zero_or_pos b with rfl | hb0
    · rw [Gf.mul_zero]
      go_enter Tryz.func116, Tryz.ntmps116
      go_wp2
      go_ret
      exact ⟨rfl, 0, rfl⟩
    · have e1 : ((b : Int) == 0) = false := by simp; omega
      obtain ⟨ge, gl, qz, qo, ce, cl, h⟩ := hf
      obtain ⟨hla, hea⟩ := Gf.lg_spec hF ha0 ha
      obtain ⟨hlb, heb⟩ := Gf.lg_spec hF hb0 hb
      have c0 : w.cell? ⟨g, 0, none⟩ = some (.slice (some ⟨ge, 0, none⟩) F.s F.s) := by rw [h.blk.cell]; rfl
      have c1 : w.cell? ⟨g, 1, none⟩ = some (.slice (some ⟨gl, 0, none⟩) F.s F.s) := by rw [h.blk.cell]; rfl
      have c4 : w.cell? ⟨g, 4, none⟩ = some (.int .i64 F.s) := by rw [h.blk.cell]; rfl
      have cla : w.cell? ⟨gl, a, none⟩ = some (.int .i64 (Gf.lg F a : Nat)) := by
        have := h.log _ hla
        rw [hea] at this
        rw [h.logs.cell]; exact this
      have clb : w.cell? ⟨gl, b, none⟩ = some (.int .i64 (Gf.lg F b : Nat)) := by
        have := h.log _ hlb
        rw [heb] at this
        rw [h.logs.cell]; exact this
      have hmod : (Gf.lg F a + Gf.lg F b) % (F.s - 1) < F.s - 1 := Nat.mod_lt _ (by omega)
      have ce1 : w.cell? ⟨ge, (Gf.lg F a + Gf.lg F b) % (F.s - 1), none⟩ = some (.int .i64 (Gf.mul F a b : Nat)) := by
        rw [h.exps.cell, h.exp _ (by omega), ← Gf.mul_lg hF ha0 ha hb0 hb]
      have hi : (((Gf.lg F a : Nat) : Int) + ((Gf.lg F b : Nat) : Int)) % ((F.s : Int) - 1) = (((Gf.lg F a + Gf.lg F b) % (F.s - 1) : Nat) : Int) := by
        have : ((F.s - 1 : Nat) : Int) = (F.s : Int) - 1 := by omega
        rw [← this]; simp
      clear h hea heb
      generalize Gf.mul F a b = r at *
      generalize Gf.lg F a = la at *
      generalize Gf.lg F b = lb at *
      have hi2 : (((la : Nat) : Int) + ((lb : Nat) : Int)) % ((F.s : Int) - 1) < (F.s : Int) := by rw [hi]; omega
      have hi3 : 0 ≤ (((la : Nat) : Int) + ((lb : Nat) : Int)) % ((F.s : Int) - 1) := by rw [hi]; omega
      have hi4 : ((((la : Nat) : Int) + ((lb : Nat) : Int)) % ((F.s : Int) - 1)).toNat = (la + lb) % (F.s - 1) := by rw [hi]; exact Int.toNat_natCast _
      generalize (la + lb) % (F.s - 1) = j at *
      clear hi hF
      go_enter Tryz.func116, Tryz.ntmps116
      go_wp2
      go_quiet (fail)
      go_wp2
      go_ret
      exact ⟨rfl, _, rfl⟩

/-- IsZero. -/
theorem isZero_any (q g : Nat) (l : List Nat) (w : World) (hp : PolyAt w q g l) (hne : l ≠ []) :
    Calls Tryz.prog 120 #[.pointer (some ⟨q, 0, none⟩)] w fun e w' => e = .returned (.bool (decide (l.getD 0 0 = 0))) ∧ w' = w := by
  obtain ⟨sl, h1, h2⟩ := hp
  obtain ⟨A, ca, rfl, ha1, ha2, ha3⟩ := h2.rd
  simp only [nv_len] at *
  unfold maxLen at ha2
  have hpos : 0 < l.length := by rcases l with _ | ⟨x, r⟩; exact absurd rfl hne; simp
  obtain ⟨ba, oa, rfl, hba, hca⟩ := ha3 hpos
  have c1 : w.cell? ⟨q, 1, none⟩ = some (.slice (some ⟨ba, oa, none⟩) l.length ca) := by rw [h1.cell]; rfl
  have c2 := hca 0 _ (nv_at l 0 hpos)
  rw [Nat.add_zero] at c2
  rw [getD_lt _ _ _ hpos]
  have hb : (((l[0] : Nat) : Int) == 0) = decide (l[0] = 0) := by rw [Bool.eq_iff_iff, beq_iff_eq, decide_eq_true_eq]; omega
  clear ha3 hca h1 h2 hne
  generalize l[0] = r at *
  have hp' : (0 : Int) < (l.length : Int) := by omega
  have HB := Lib.hid hb; clear hb
  go_enter Tryz.func120, Tryz.ntmps120
  go_wp2
  go_ret
  exact ⟨ret_bool HB.out, rfl⟩

/-- GetZero, GetOne, GetCoefficients. -/
theorem getZero_any (g : Nat) (F : Gf.Fd) (w : World) (hf : FieldAt w g F) :
    Calls Tryz.prog 118 #[.pointer (some ⟨g, 0, none⟩)] w fun e w' => ∃ q, e = .returned (.pointer (some ⟨q, 0, none⟩)) ∧ PolyAt w q g [0] ∧ w' = w := by
  obtain ⟨ge, gl, qz, qo, ce, cl, h⟩ := hf
  have c2 : w.cell? ⟨g, 2, none⟩ = some (.pointer (some ⟨qz, 0, none⟩)) := by rw [h.blk.cell]; rfl
  have HZ := Lib.hid h.zero
  clear h
  go_enter Tryz.func118, Tryz.ntmps118
  go_wp2
  go_ret
  exact ⟨qz, rfl, HZ.out, rfl⟩
end Go.Proofs.YtopfdmmimgnciaaGreatDoor
namespace Go.Proofs.YtopfdmmimgnciaaGreatDoor.Gf

/-- v is added at place j. -/
def addAt (out : List Nat) (j v : Nat) : List Nat := out.set j (out.getD j 0 ^^^ v)
def inner (F : Fd) (x : Nat) : List Nat → Nat → List Nat → List Nat
  | [], _, out => out
  | y :: ys, j, out => inner F x ys (j + 1) (addAt out j (mul F x y))
def outer (F : Fd) : List Nat → List Nat → Nat → List Nat → List Nat
  | [], _, _, out => out
  | x :: xs, ys, i, out => outer F xs ys (i + 1) (inner F x ys i out)
def prod (F : Fd) (xs ys : List Nat) : List Nat := outer F xs ys 0 (List.replicate (xs.length + ys.length - 1) 0)

theorem addAt_len (out : List Nat) (j v : Nat) : (addAt out j v).length = out.length := by simp [addAt]
theorem inner_len (F : Fd) (x : Nat) : ∀ (ys : List Nat) (j : Nat) (out : List Nat), (inner F x ys j out).length = out.length
  | [], _, _ => rfl
  | y :: ys, j, out => by unfold inner; rw [inner_len F x ys, addAt_len]
theorem outer_len (F : Fd) : ∀ (xs ys : List Nat) (i : Nat) (out : List Nat), (outer F xs ys i out).length = out.length
  | [], _, _, _ => rfl
  | x :: xs, ys, i, out => by unfold outer; rw [outer_len F xs ys, inner_len]
theorem prod_len (F : Fd) (xs ys : List Nat) : (prod F xs ys).length = xs.length + ys.length - 1 := by unfold prod; rw [outer_len]; simp
theorem addAt_lt {F : Fd} {out : List Nat} {j v : Nat} (ho : ∀ x ∈ out, x < F.s) (hv : v < F.s) : ∀ x ∈ addAt out j v, x < F.s := by
  intro x hx
  unfold addAt at hx
  rcases List.mem_or_eq_of_mem_set hx with h | h
  · exact ho x h
  · subst h
    refine Nat.xor_lt_two_pow ?_ hv
    by_cases hj : j < out.length
    · rw [List.getD, List.getElem?_eq_getElem hj]; exact ho _ (List.getElem_mem hj)
    · rw [List.getD, List.getElem?_eq_none (by omega)]; exact s_pos F
theorem inner_lt {F : Fd} (h : Ok F) {x : Nat} (hx : x < F.s) : ∀ (ys : List Nat) (j : Nat) (out : List Nat), (∀ z ∈ out, z < F.s) → ∀ z ∈ inner F x ys j out, z < F.s
  | [], _, _, ho => ho
  | y :: ys, j, _, ho => inner_lt h hx ys (j + 1) _ (addAt_lt ho (mul_lt h y hx))
theorem outer_lt {F : Fd} (h : Ok F) : ∀ (xs ys : List Nat) (i : Nat) (out : List Nat), (∀ z ∈ xs, z < F.s) → (∀ z ∈ out, z < F.s) → ∀ z ∈ outer F xs ys i out, z < F.s
  | [], _, _, _, _, ho => ho
  | x :: xs, ys, i, out, hx, ho => outer_lt h xs ys (i + 1) _ (fun z hz => hx z (List.mem_cons_of_mem _ hz)) (inner_lt h (hx x (List.mem_cons_self ..)) ys i out ho)
theorem prod_lt {F : Fd} (h : Ok F) (xs ys : List Nat) (hx : ∀ z ∈ xs, z < F.s) : ∀ z ∈ prod F xs ys, z < F.s :=
  outer_lt h xs ys 0 _ hx (fun z hz => by have := List.eq_of_mem_replicate hz; have := s_pos F; omega)
theorem addAt_zero (out : List Nat) (j : Nat) : addAt out j 0 = out := by
  unfold addAt
  apply List.ext_getElem?
  intro i
  rw [List.getElem?_set]
  by_cases hij : j = i
  · subst hij
    by_cases hj : j < out.length
    · simp [List.getD, hj]
    · simp [hj]
  · simp [hij]
theorem inner_zero (F : Fd) : ∀ (ys : List Nat) (j : Nat) (out : List Nat), inner F 0 ys j out = out
  | [], _, _ => rfl
  | y :: ys, j, out => by unfold inner; rw [zero_mul, addAt_zero]; exact inner_zero F ys (j + 1) out
theorem outer_zero (F : Fd) : ∀ (xs : List Nat) (i : Nat) (out : List Nat), outer F xs [0] i out = out
  | [], _, _ => rfl
  | x :: xs, i, out => by
    unfold outer inner inner
    rw [mul_zero, addAt_zero]
    exact outer_zero F xs (i + 1) out
theorem prod_zero_left (F : Fd) (ys : List Nat) : prod F [0] ys = List.replicate ys.length 0 := by
  unfold prod outer outer
  rw [inner_zero]
  congr 1; simp
theorem prod_zero_right (F : Fd) (xs : List Nat) : prod F xs [0] = List.replicate xs.length 0 := by
  unfold prod
  rw [outer_zero]
  congr 1
theorem inner_drop (F : Fd) (x : Nat) (ys : List Nat) (k j : Nat) (out : List Nat) (hk : k < ys.length) : inner F x (ys.drop k) j out = inner F x (ys.drop (k + 1)) (j + 1) (addAt out j (mul F x ys[k])) := by
  rw [List.drop_eq_getElem_cons hk]
  rfl
theorem outer_drop (F : Fd) (xs ys : List Nat) (i : Nat) (out : List Nat) (hi : i < xs.length) : outer F (xs.drop i) ys i out = outer F (xs.drop (i + 1)) ys (i + 1) (inner F xs[i] ys i out) := by
  rw [List.drop_eq_getElem_cons hi]
  rfl
end Go.Proofs.YtopfdmmimgnciaaGreatDoor.Gf
namespace Go.Proofs.YtopfdmmimgnciaaGreatDoor
open Go.RowKit

theorem nv_set (out : List Nat) (j v : Nat) : (nv out).toArray.setIfInBounds j (.int .i64 (v : Int)) = (nv (out.set j v)).toArray := by
  simp [nv, List.map_set]
theorem nv_cell (out : List Nat) (j : Nat) (h : j < out.length) : (nv out).toArray[j]? = some (.int .i64 ((out[j] : Nat) : Int)) := by
  rw [List.getElem?_toArray]; exact nv_at out j h
theorem nv_rep (n : Nat) : rep n (.int .i64 0) = (nv (List.replicate n 0)).toArray := by
  simp [rep, nv]

set_option maxRecDepth 100000 in
set_option maxHeartbeats 4000000 in
/-- spec.RSProduct. -/
theorem product_any (F : Gf.Fd) (hF : Gf.Ok F) (h12 : F.m ≤ 12) (a b : Value) (xs ys : List Nat) (w : World) (ha : Rd w w.heap.size a (nv xs)) (hb : Rd w w.heap.size b (nv ys))
    (hx : ∀ x ∈ xs, x < F.s) (hy : ∀ y ∈ ys, y < F.s) (hxn : 0 < xs.length) (hyn : 0 < ys.length) (hx4 : xs.length ≤ 16384) (hy4 : ys.length ≤ 16384) :
    Calls Tryz.prog 90 #[.agg #[.int .i64 F.p, .int .i64 F.s, .int .i64 F.b], a, b] w fun e w' =>
      ∃ v, e = .returned v ∧ RdT w' 3 v (nv (tidy (Gf.prod F xs ys))) ∧ Below w.heap.size w w' := by
  have hs12 := s_le F h12
  obtain ⟨A, ca, rfl, ha1, ha2, ha3⟩ := ha
  obtain ⟨C, cb, rfl, hb1, hb2, hb3⟩ := hb
  simp only [nv_len] at *
  unfold maxLen at ha2 hb2
  obtain ⟨ba, oa, rfl, hba, hca⟩ := ha3 hxn
  obtain ⟨bb, ob, rfl, hbb, hcb⟩ := hb3 hyn
  have HA := Lib.hid hca; clear hca ha3
  have HB := Lib.hid hcb; clear hcb hb3
  have HX := Lib.hid hx; clear hx
  have HY := Lib.hid hy; clear hy
  have hmk : ∀ W, (Instr.makeSlice 25 (.int .i64 ((xs.length : Int) + (ys.length : Int) - 1)) (.int .i64 ((xs.length : Int) + (ys.length : Int) - 1))).run Tryz.prog W =
      .ok (.slice (some ⟨W.heap.size, 0, none⟩) (xs.length + ys.length - 1) (xs.length + ys.length - 1)) (W.alloc (.cells (nv (List.replicate (xs.length + ys.length - 1) 0)).toArray 3)) := fun W => by
    have e : ((xs.length : Int) + (ys.length : Int) - 1) = ((xs.length + ys.length - 1 : Nat) : Int) := by omega
    rw [e, ← nv_rep]
    exact run_mk 25 3 (.int .i64 0) 8 Tryz.underlying25 info_int rfl _ (by omega) (by omega) W
  obtain ⟨N, hN⟩ : ∃ N, N = xs.length + ys.length - 1 := ⟨_, rfl⟩
  rw [← hN] at hmk
  have hN1 : N ≤ xs.length + ys.length - 1 := by omega
  have hN2 : xs.length + ys.length - 1 ≤ N := by omega
  have HN := Lib.hid hN; clear hN
  go_enter Tryz.func90, Tryz.ntmps90
  go_wp2
  clear hmk
  go_loopw [8] (fun iv wr => ∃ (i : Nat) (out : List Nat), i ≤ xs.length ∧ iv = .int .i64 i ∧ out.length ≤ N ∧ N ≤ out.length ∧ Hid (∀ z ∈ out, z < F.s) ∧ Hid (Gf.outer F (xs.drop i) ys i out = Gf.prod F xs ys) ∧
      Hid (Blk wr (w.heap.size + 1) 3 (nv out).toArray) ∧ Hid (Blk wr w.heap.size 30 #[.int .i64 F.p, .int .i64 F.s, .int .i64 F.b]) ∧ Hid (Below w.heap.size w wr)) (fun iv _ => xs.length - (intOf iv).toNat)
  case atStart =>
    refine ⟨0, List.replicate N 0, Nat.zero_le _, rfl, by simp, by simp, fun z hz => ?_, ?_, Blk.fresh' (by simp), (Blk.fresh _ _ _).alloc _, ?_⟩
    · have := List.eq_of_mem_replicate hz; have := Gf.s_pos F; omega
    · show Gf.outer F xs ys 0 _ = _
      rw [HN.out]; rfl
    · exact bal (bal (brf w) _) _
  case round =>
    obtain ⟨i, out, hi, rfl, ho1, ho2, HO, HP, HBk, HBx, HW⟩ := hrel
    obtain ⟨wo, rfl⟩ : ∃ wo : World, wo = wr := ⟨_, rfl⟩
    by_cases hlt : i < xs.length
    · have hP2 := HP.out
      rw [Gf.outer_drop F xs ys i out hlt] at hP2
      have hxi : xs[i] < F.s := HX.out _ (List.getElem_mem hlt)
      have ca1 := HA.out i _ (nv_at xs i hlt)
      generalize xs[i] = x at *
      have HP2 := Lib.hid hP2; clear hP2
      go_wp2
      go_loopw [9] (fun kv wr => ∃ (k : Nat) (ot : List Nat), k ≤ ys.length ∧ kv = .int .i64 k ∧ ot.length ≤ N ∧ N ≤ ot.length ∧ Hid (∀ z ∈ ot, z < F.s) ∧
          Hid (Gf.outer F (xs.drop (i + 1)) ys (i + 1) (Gf.inner F x (ys.drop k) (i + k) ot) = Gf.prod F xs ys) ∧
          Hid (Blk wr (w.heap.size + 1) 3 (nv ot).toArray) ∧ Hid (Blk wr w.heap.size 30 #[.int .i64 F.p, .int .i64 F.s, .int .i64 F.b]) ∧ Hid (Below w.heap.size w wr)) (fun kv _ => ys.length - (intOf kv).toNat)
      case atStart => exact ⟨0, out, Nat.zero_le _, rfl, ho1, ho2, HO, HP2, HBk, HBx, HW⟩
      case round =>
        clear HO HP HBk HBx HW HP2 ho1 ho2
        obtain ⟨k, ot, hk, rfl, ho1, ho2, HO, HP, HBk, HBx, HW⟩ := hrel
        by_cases hlk : k < ys.length
        · have hP2 := HP.out
          rw [Gf.inner_drop F x ys k (i + k) ot hlk] at hP2
          have hyk : ys[k] < F.s := HY.out _ (List.getElem_mem hlk)
          have cb1 := HB.out k _ (nv_at ys k hlk)
          generalize ys[k] = y at *
          obtain ⟨x0, x1, x2⟩ := HBx.out.three
          have cA : wr.cell? ⟨ba, oa + i, none⟩ = some (.int .i64 ((x : Nat) : Int)) := cell_up ca1 HW.out
          have cB : wr.cell? ⟨bb, ob + k, none⟩ = some (.int .i64 ((y : Nat) : Int)) := cell_up cb1 HW.out
          have cO : wr.cell? ⟨w.heap.size + 1, i + k, none⟩ = some (.int .i64 ((ot[i + k]'(by omega) : Nat) : Int)) := by rw [HBk.out.cell]; exact nv_cell ot _ (by omega)
          have fO : wr.frozen? ⟨w.heap.size + 1, i + k, none⟩ = false := HBk.out.frozen _
          have hov : ot[i + k]'(by omega) < F.s := HO.out _ (List.getElem_mem _)
          have hgd : ot.getD (i + k) 0 = ot[i + k]'(by omega) := getD_lt _ _ _ (by omega)
          generalize ot[i + k]'(by omega) = o at *
          have hmul : Gf.mul F x y < F.s := Gf.mul_lt hF y hxi
          have hadd : Gf.addAt ot (i + k) (Gf.mul F x y) = ot.set (i + k) (o ^^^ Gf.mul F x y) := by unfold Gf.addAt; rw [hgd]
          rw [hadd] at hP2
          have hlt2 : ∀ z ∈ ot.set (i + k) (o ^^^ Gf.mul F x y), z < F.s := by rw [← hadd]; exact Gf.addAt_lt HO.out hmul
          have HL2 := Lib.hid hlt2; clear hlt2 hadd hgd
          have HP2 := Lib.hid hP2; clear hP2
          have hT := fun W => times_any F hF h12 x y W hxi hyk
          generalize Gf.mul F x y = m at *
          have hxor := i64_xor o m (by omega) (by omega)
          clear ca1 cb1
          have HT := Lib.hid hT; clear hT
          obtain ⟨s1, s2, s3, s4⟩ := sum_ix i k N (by omega) (by omega)
          go_wp2
          refine Can.wp_region_can (fun w' => w'.cell? ⟨w.heap.size, 0, none⟩ = some (.int .i64 F.p) ∧ w'.cell? ⟨w.heap.size, 1, none⟩ = some (.int .i64 F.s) ∧ w'.cell? ⟨w.heap.size, 2, none⟩ = some (.int .i64 F.b) ∧
              w'.cell? ⟨ba, oa + i, none⟩ = some (.int .i64 ((x : Nat) : Int)) ∧ w'.cell? ⟨bb, ob + k, none⟩ = some (.int .i64 ((y : Nat) : Int)) ∧ w'.cell? ⟨w.heap.size + 1, i + k, none⟩ = some (.int .i64 ((o : Nat) : Int)))
            22 [0, 1, 2, 3, 4, 5, 6, 7, 8, 9, 10, 11, 12, 13, 14, 15, 16, 17, 18, 21, 19, 20, 22] (by kernel_rfl) (by kernel_rfl) (fun _ _ d _ _ h => by cases d <;> exact h) ⟨x0, x1, x2, cA, cB, cO⟩ (fun hHeld => ?_)
          repeat (refine Can.can_pure (v := ?_) rfl rfl (Or.inl ⟨by rfl, ?_⟩) ?_; rotate_left; focus ((intro w hSw); (try dsimp only at hSw); go_simp; (try with_reducible rfl)); (try simp only [Act.put, List.setIfInBounds_toArray, List.set_cons_zero, List.set_cons_succ]))
          refine Can.can_eff rfl rfl (by rfl) (fun K hK => ?_)
          go_simp
          refine (HT.out _).mono ?_
          rintro e w1 ⟨rfl, hb1'⟩
          refine hK.out _ _ ⟨cell_up hHeld.1 hb1', cell_up hHeld.2.1 hb1', cell_up hHeld.2.2.1 hb1', cell_up hHeld.2.2.2.1 hb1', cell_up hHeld.2.2.2.2.1 hb1', cell_up hHeld.2.2.2.2.2 hb1'⟩ (fun hHeld1 => ?_)
          clear hK K
          (try simp only [Act.put, List.setIfInBounds_toArray, List.set_cons_zero, List.set_cons_succ])
          repeat (refine Can.can_pure (v := ?_) rfl rfl (Or.inl ⟨by rfl, ?_⟩) ?_; rotate_left; focus ((intro w hSw); (try dsimp only at hSw); go_simp; (try with_reducible rfl)); (try simp only [Act.put, List.setIfInBounds_toArray, List.set_cons_zero, List.set_cons_succ]))
          have fO1 : w1.frozen? ⟨w.heap.size + 1, i + k, none⟩ = false := (HBk.out.drew.up hb1').frozen _
          have cO1 := hHeld1.2.2.2.2.2
          refine Can.can_tail rfl rfl (by rfl) (fun K hK => ?_)
          go_simp
          refine hK.out _ _ ?_
          clear hK K
          clear s1 s2 s3 s4 hHeld hHeld1 cO1 fO1 hxor
          have hW1 := Lib.hid (((HW.out.drew).trans (hb1'.mono HW.out.drew.size)).setCell (p := ⟨w.heap.size + 1, i + k, none⟩) (by simp) (.int .i64 ((o ^^^ m : Nat) : Int)))
          have hk1 : Hid (Blk (w1.setCell ⟨w.heap.size + 1, i + k, none⟩ (.int .i64 ((o ^^^ m : Nat) : Int))) (w.heap.size + 1) 3 (nv (ot.set (i + k) (o ^^^ m))).toArray) := by
            have := (HBk.out.drew.up hb1').put (i + k) (.int .i64 ((o ^^^ m : Nat) : Int))
            rw [nv_set] at this; exact this
          have hx1 := Lib.hid ((HBx.out.drew.up hb1').far (p := ⟨w.heap.size + 1, i + k, none⟩) (by simp) (.int .i64 ((o ^^^ m : Nat) : Int)))
          clear hb1'
          go_wp2
          go_roundw
          case rel => exact ⟨k + 1, _, by omega, by go_num, by rw [List.length_set]; exact ho1, by rw [List.length_set]; exact ho2, HL2, by rw [← Nat.add_assoc]; exact HP2.out, hk1, hx1, hW1⟩
          case measure => simp [intOf]; omega
        · obtain rfl : k = ys.length := by omega
          have hP2 := HP.out
          rw [List.drop_length] at hP2
          have HP2 : Hid (Gf.outer F (xs.drop (i + 1)) ys (i + 1) ot = Gf.prod F xs ys) := hP2
          clear hP2 ca1
          go_wp2
          go_roundw
          case rel => exact ⟨i + 1, ot, by omega, by go_num, ho1, ho2, HO, HP2, HBk, HBx, HW⟩
          case measure => simp [intOf]; omega
    · obtain rfl : i = xs.length := by omega
      have hP2 := HP.out
      rw [List.drop_length] at hP2
      have HP2 : Hid (out = Gf.prod F xs ys) := hP2
      clear hP2
      go_wp2_with fail
      refine (tidy_any _ out _ (Rd.of_blk HBk.out (by rw [nv_len]; omega) (by rw [nv_len]; omega) (by unfold maxLen; omega)) (by rintro rfl; simp at ho2; omega) (by omega)).mono ?_
      rintro e w1 ⟨v1, rfl, hv1, hb1'⟩
      go_wp2
      go_ret
      refine ⟨v1, rfl, ?_, bup HW.out hb1'⟩
      rw [← HP2.out]; exact hv1
end Go.Proofs.YtopfdmmimgnciaaGreatDoor
namespace Go.Proofs.YtopfdmmimgnciaaGreatDoor
open Go.RowKit
theorem run_neq_self {P : Program} {tp te : TypeId} (a : Addr) (hp : P.underlying tp = some (.pointer te)) (hte : (P.info? te).isSome = true) (w : World) :
    (binOp .neq tp (.pointer (some a)) (.pointer (some a))).run P w = .ok (.bool false) w := by
  obtain ⟨j, hj⟩ := Option.isSome_iff_exists.1 hte
  have h : ∀ d : Nat, (Op.equalIn (d + 1) tp (.pointer (some a)) (.pointer (some a))).run P w = .ok true w := fun d => by
    simp [Op.equalIn, run_underlying hp, sizeOf, typeInfo, hj, run_sameAddr_same]
  simp only [binOp]
  simp [Op.equal, Op.maxDepth, h 9999]
end Go.Proofs.YtopfdmmimgnciaaGreatDoor
namespace Go.Proofs.YtopfdmmimgnciaaGreatDoor
open Go.RowKit

theorem tidy_zero {l : List Nat} (h : Tidy l) (h0 : l.getD 0 0 = 0) : l = [0] := by
  rcases l with _ | ⟨x, _ | ⟨y, r⟩⟩
  · exact absurd rfl h.1
  · simp at h0; rw [h0]
  · rcases h.2 with h1 | h1
    · simp at h1
    · exact absurd h0 h1
theorem tidy_rep (n : Nat) (h : 0 < n) : tidy (List.replicate n 0) = [0] :=
  tidy_zeros _ (by intro h0; have := congrArg List.length h0; simp at this; omega) (fun x hx => List.eq_of_mem_replicate hx)

theorem isZero_yes (q g : Nat) (l : List Nat) (w : World) (hp : PolyAt w q g l) (hne : l ≠ []) (h : l.getD 0 0 = 0) :
    Calls Tryz.prog 120 #[.pointer (some ⟨q, 0, none⟩)] w fun e w' => e = .returned (.bool true) ∧ w' = w :=
  (isZero_any q g l w hp hne).mono fun e w' ⟨he, hw⟩ => ⟨by rw [he, decide_eq_true h], hw⟩
theorem isZero_no (q g : Nat) (l : List Nat) (w : World) (hp : PolyAt w q g l) (hne : l ≠ []) (h : ¬ l.getD 0 0 = 0) :
    Calls Tryz.prog 120 #[.pointer (some ⟨q, 0, none⟩)] w fun e w' => e = .returned (.bool false) ∧ w' = w :=
  (isZero_any q g l w hp hne).mono fun e w' ⟨he, hw⟩ => ⟨by rw [he, decide_eq_false h], hw⟩

set_option maxRecDepth 100000 in
set_option maxHeartbeats 4000000 in
/-- (*GenericGFPoly).Multiply. -/
theorem polyMul_any (F : Gf.Fd) (hF : Gf.Ok F) (h12 : F.m ≤ 12) (g q1 q2 : Nat) (xs ys : List Nat) (w : World) (hf : FieldAt w g F) (hp1 : PolyAt w q1 g xs) (hp2 : PolyAt w q2 g ys)
    (hx : ∀ x ∈ xs, x < F.s) (hy : ∀ y ∈ ys, y < F.s) (hxt : Tidy xs) (hyt : Tidy ys) (hx4 : xs.length ≤ 16384) (hy4 : ys.length ≤ 16384) :
    Calls Tryz.prog 124 #[.pointer (some ⟨q1, 0, none⟩), .pointer (some ⟨q2, 0, none⟩)] w (MadePoly w g (tidy (Gf.prod F xs ys))) := by
  have hs12 := s_le F h12
  have hxn : 0 < xs.length := by rcases xs with _ | ⟨x, r⟩; exact absurd rfl hxt.1; simp
  have hyn : 0 < ys.length := by rcases ys with _ | ⟨x, r⟩; exact absurd rfl hyt.1; simp
  have hne := fun W => run_neq_self (P := Tryz.prog) (⟨g, 0, none⟩ : Addr) Tryz.underlying124 (by kernel_rfl) W
  obtain ⟨sx, kx, vx⟩ := id hp1
  obtain ⟨sy, ky, vy⟩ := id hp2
  obtain ⟨A, ca, rfl, ha1, ha2, ha3⟩ := vx.rd
  obtain ⟨C, cb, rfl, hb1, hb2, hb3⟩ := vy.rd
  simp only [nv_len] at *
  unfold maxLen at ha2 hb2
  obtain ⟨ba, oa, rfl, hba, hca⟩ := ha3 hxn
  obtain ⟨bb, ob, rfl, hbb, hcb⟩ := hb3 hyn
  have x0 : w.cell? ⟨q1, 0, none⟩ = some (.pointer (some ⟨g, 0, none⟩)) := by rw [kx.cell]; rfl
  have x1 : w.cell? ⟨q1, 1, none⟩ = some (.slice (some ⟨ba, oa, none⟩) xs.length ca) := by rw [kx.cell]; rfl
  have y0 : w.cell? ⟨q2, 0, none⟩ = some (.pointer (some ⟨g, 0, none⟩)) := by rw [ky.cell]; rfl
  have y1 : w.cell? ⟨q2, 1, none⟩ = some (.slice (some ⟨bb, ob, none⟩) ys.length cb) := by rw [ky.cell]; rfl
  have HA := Lib.hid hca; clear hca ha3
  have HB := Lib.hid hcb; clear hcb hb3
  have HX := Lib.hid hx; clear hx
  have HY := Lib.hid hy; clear hy
  clear kx ky vx vy
  have HF := Lib.hid hf; clear hf
  have HP1 := Lib.hid hp1; clear hp1
  have HP2 := Lib.hid hp2; clear hp2
  by_cases hz : xs.getD 0 0 = 0
  · have hx0 := tidy_zero hxt hz
    subst hx0
    rw [Gf.prod_zero_left, tidy_rep _ hyn]
    go_enter Tryz.func124, Tryz.ntmps124
    go_wp2
    go_quiet (fail)
    go_wp2_with (first
      | (go_at_call 120; refine (isZero_yes q1 g [0] (w.drewN nq) HP1.out (by simp) rfl).mono ?_; rintro e w1 ⟨rfl, rfl⟩)
      | (go_at_call 118; refine (getZero_any g F (w.drewN nq) (HF.out.up (bdn (brf w) nq))).mono ?_; rintro e w1 ⟨q, rfl, hq, rfl⟩))
    go_ret2
    exact ⟨q, rfl, hq, bdn (brf w) _⟩
  · have hxz := hz
    by_cases hzy : ys.getD 0 0 = 0
    · have hy0 := tidy_zero hyt hzy
      subst hy0
      rw [Gf.prod_zero_right, tidy_rep _ hxn]
      have hxne : xs ≠ [] := hxt.1
      go_enter Tryz.func124, Tryz.ntmps124
      go_wp2
      go_quiet (fail)
      go_wp2_with (first
        | (go_at_call_of 120 (Value.pointer (some ⟨q1, 0, none⟩)); refine (isZero_no q1 g xs (w.drewN nq) HP1.out hxne hxz).mono ?_; rintro e w1 ⟨rfl, rfl⟩)
        | (go_at_call_of 120 (Value.pointer (some ⟨q2, 0, none⟩)); refine (isZero_yes q2 g [0] (w.drewN nq) HP2.out (by simp) rfl).mono ?_; rintro e w1 ⟨rfl, rfl⟩)
        | (go_at_call 118; refine (getZero_any g F (w.drewN nq) (HF.out.up (bdn (brf w) nq))).mono ?_; rintro e w1 ⟨q, rfl, hq, rfl⟩))
      go_ret2
      exact ⟨q, rfl, hq, bdn (brf w) _⟩
    · have hxne : xs ≠ [] := hxt.1
      have hyne : ys ≠ [] := hyt.1
      have hmk : ∀ W, (Instr.makeSlice 25 (.int .i64 ((xs.length : Int) + (ys.length : Int) - 1)) (.int .i64 ((xs.length : Int) + (ys.length : Int) - 1))).run Tryz.prog W =
          .ok (.slice (some ⟨W.heap.size, 0, none⟩) (xs.length + ys.length - 1) (xs.length + ys.length - 1)) (W.alloc (.cells (nv (List.replicate (xs.length + ys.length - 1) 0)).toArray 3)) := fun W => by
        have e : ((xs.length : Int) + (ys.length : Int) - 1) = ((xs.length + ys.length - 1 : Nat) : Int) := by omega
        rw [e, ← nv_rep]
        exact run_mk 25 3 (.int .i64 0) 8 Tryz.underlying25 info_int rfl _ (by omega) (by omega) W
      obtain ⟨N, hN⟩ : ∃ N, N = xs.length + ys.length - 1 := ⟨_, rfl⟩
      rw [← hN] at hmk
      have hN1 : N ≤ xs.length + ys.length - 1 := by omega
      have hN2 : xs.length + ys.length - 1 ≤ N := by omega
      have HN := Lib.hid hN; clear hN
      clear hxt hyt hz
      go_enter Tryz.func124, Tryz.ntmps124
      go_wp2
      go_quiet (fail)
      clear hne
      go_wp2_with (first
        | (go_at_call_of 120 (Value.pointer (some ⟨q1, 0, none⟩)); refine (isZero_no q1 g xs (w.drewN nq) HP1.out hxne hxz).mono ?_; rintro e w1 ⟨rfl, rfl⟩)
        | (go_at_call_of 120 (Value.pointer (some ⟨q2, 0, none⟩)); refine (isZero_no q2 g ys (w.drewN nq) HP2.out hyne hzy).mono ?_; rintro e w1 ⟨rfl, rfl⟩))
      clear hmk x1 y1 hxne hyne hxz hzy y0
      go_loopw [11] (fun iv wr => ∃ (i : Nat) (out : List Nat), i ≤ xs.length ∧ iv = .int .i64 i ∧ out.length ≤ N ∧ N ≤ out.length ∧ Hid (∀ z ∈ out, z < F.s) ∧ Hid (Gf.outer F (xs.drop i) ys i out = Gf.prod F xs ys) ∧
          Hid (Blk wr w.heap.size 3 (nv out).toArray) ∧ Hid (Below w.heap.size w wr)) (fun iv _ => xs.length - (intOf iv).toNat)
      case atStart =>
        refine ⟨0, List.replicate N 0, Nat.zero_le _, rfl, by simp, by simp, fun z hz => ?_, ?_, Blk.fresh (w.drewN nq) _ _, ?_⟩
        · have := List.eq_of_mem_replicate hz; have := Gf.s_pos F; omega
        · show Gf.outer F xs ys 0 _ = _
          rw [HN.out]; rfl
        · exact bal (bdn (brf w) _) _
      case round =>
        obtain ⟨i, out, hi, rfl, ho1, ho2, HO, HP, HBk, HW⟩ := hrel
        obtain ⟨wo, rfl⟩ : ∃ wo : World, wo = wr := ⟨_, rfl⟩
        by_cases hlt : i < xs.length
        · have hP2 := HP.out
          rw [Gf.outer_drop F xs ys i out hlt] at hP2
          have hxi : xs[i] < F.s := HX.out _ (List.getElem_mem hlt)
          have ca1 := HA.out i _ (nv_at xs i hlt)
          generalize xs[i] = x at *
          have cA : wo.cell? ⟨ba, oa + i, none⟩ = some (.int .i64 ((x : Nat) : Int)) := cell_up ca1 HW.out
          have HP2 := Lib.hid hP2; clear hP2 ca1
          go_wp2
          go_loopw [13] (fun kv wr => ∃ (k : Nat) (ot : List Nat), k ≤ ys.length ∧ kv = .int .i64 k ∧ ot.length ≤ N ∧ N ≤ ot.length ∧ Hid (∀ z ∈ ot, z < F.s) ∧
              Hid (Gf.outer F (xs.drop (i + 1)) ys (i + 1) (Gf.inner F x (ys.drop k) (i + k) ot) = Gf.prod F xs ys) ∧
              Hid (Blk wr w.heap.size 3 (nv ot).toArray) ∧ Hid (Below w.heap.size w wr)) (fun kv _ => ys.length - (intOf kv).toNat)
          case atStart => exact ⟨0, out, Nat.zero_le _, rfl, ho1, ho2, HO, HP2, HBk, HW⟩
          case round =>
            clear HO HP HBk HW HP2 ho1 ho2 cA
            obtain ⟨k, ot, hk, rfl, ho1, ho2, HO, HP, HBk, HW⟩ := hrel
            by_cases hlk : k < ys.length
            · have hP2 := HP.out
              rw [Gf.inner_drop F x ys k (i + k) ot hlk] at hP2
              have hyk : ys[k] < F.s := HY.out _ (List.getElem_mem hlk)
              have cb1 := HB.out k _ (nv_at ys k hlk)
              generalize ys[k] = y at *
              have cF : wr.cell? ⟨q1, 0, none⟩ = some (.pointer (some ⟨g, 0, none⟩)) := cell_up x0 HW.out
              have cB : wr.cell? ⟨bb, ob + k, none⟩ = some (.int .i64 ((y : Nat) : Int)) := cell_up cb1 HW.out
              have cO : wr.cell? ⟨w.heap.size, i + k, none⟩ = some (.int .i64 ((ot[i + k]'(by omega) : Nat) : Int)) := by rw [HBk.out.cell]; exact nv_cell ot _ (by omega)
              have fO : wr.frozen? ⟨w.heap.size, i + k, none⟩ = false := HBk.out.frozen _
              have hov : ot[i + k]'(by omega) < F.s := HO.out _ (List.getElem_mem _)
              have hgd : ot.getD (i + k) 0 = ot[i + k]'(by omega) := getD_lt _ _ _ (by omega)
              generalize ot[i + k]'(by omega) = o at *
              have hmul : Gf.mul F x y < F.s := Gf.mul_lt hF y hxi
              have hadd : Gf.addAt ot (i + k) (Gf.mul F x y) = ot.set (i + k) (o ^^^ Gf.mul F x y) := by unfold Gf.addAt; rw [hgd]
              rw [hadd] at hP2
              have hlt2 : ∀ z ∈ ot.set (i + k) (o ^^^ Gf.mul F x y), z < F.s := by rw [← hadd]; exact Gf.addAt_lt HO.out hmul
              have HL2 := Lib.hid hlt2; clear hlt2 hadd hgd
              have HP2 := Lib.hid hP2; clear hP2
              have hT := fun W hW => mulGF_any g F hF h12 x y hxi hyk W hW
              generalize Gf.mul F x y = m at *
              clear cb1
              have HT := Lib.hid hT; clear hT
              obtain ⟨s1, s2, s3, s4⟩ := sum_ix i k N (by omega) (by omega)
              go_wp2
              refine Can.wp_region_can (fun w' => w'.cell? ⟨q1, 0, none⟩ = some (.pointer (some ⟨g, 0, none⟩)) ∧
                  w'.cell? ⟨bb, ob + k, none⟩ = some (.int .i64 ((y : Nat) : Int)) ∧ w'.cell? ⟨w.heap.size, i + k, none⟩ = some (.int .i64 ((o : Nat) : Int)) ∧ w'.frozen? ⟨w.heap.size, i + k, none⟩ = false)
                22 [0, 1, 2, 3, 4, 5, 6, 7, 8, 9, 10, 11, 12, 13, 14, 15, 16, 17, 18, 19, 20, 21, 22] (by kernel_rfl) (by kernel_rfl) (fun _ _ d _ _ h => by cases d <;> exact h) ⟨cF, cB, cO, fO⟩ (fun hHeld => ?_)
              repeat (refine Can.can_pure (v := ?_) rfl rfl (Or.inl ⟨by rfl, ?_⟩) ?_; rotate_left; focus ((intro w hSw); (try dsimp only at hSw); go_simp; (try with_reducible rfl)); (try simp only [Act.put, List.setIfInBounds_toArray, List.set_cons_zero, List.set_cons_succ]))
              refine Can.can_eff rfl rfl (by rfl) (fun K hK => ?_)
              go_simp
              refine (HT.out _ (HF.out.up (HW.out.drew))).mono ?_
              rintro e w1 ⟨rfl, n, rfl⟩
              refine hK.out _ _ hHeld (fun hHeld1 => ?_)
              clear hK K hHeld
              (try simp only [Act.put, List.setIfInBounds_toArray, List.set_cons_zero, List.set_cons_succ])
              refine Can.can_eff rfl rfl (by rfl) (fun K hK => ?_)
              go_simp
              refine (add_any o m (by omega) (by omega) _).mono ?_
              rintro e w1 ⟨rfl, rfl⟩
              refine hK.out _ _ hHeld1 (fun hHeld => ?_)
              clear hK K hHeld1
              (try simp only [Act.put, List.setIfInBounds_toArray, List.set_cons_zero, List.set_cons_succ])
              repeat (refine Can.can_pure (v := ?_) rfl rfl (Or.inl ⟨by rfl, ?_⟩) ?_; rotate_left; focus ((intro w hSw); (try dsimp only at hSw); go_simp; (try with_reducible rfl)); (try simp only [Act.put, List.setIfInBounds_toArray, List.set_cons_zero, List.set_cons_succ]))
              have fO1 := hHeld.2.2.2
              have cO1 := hHeld.2.2.1
              refine Can.can_tail rfl rfl (by rfl) (fun K hK => ?_)
              go_simp
              refine hK.out _ _ ?_
              clear hK K
              clear s1 s2 s3 s4 hHeld cO1 fO1 cF cB cO fO
              have hW1 := Lib.hid ((below_drewN HW.out (1 + n)).setCell (p := ⟨w.heap.size, i + k, none⟩) (Nat.le_refl _) (.int .i64 ((o ^^^ m : Nat) : Int)))
              have hk1 : Hid (Blk ((wr.drewN (1 + n)).setCell ⟨w.heap.size, i + k, none⟩ (.int .i64 ((o ^^^ m : Nat) : Int))) w.heap.size 3 (nv (ot.set (i + k) (o ^^^ m))).toArray) := by
                have := (HBk.out.drewN (1 + n)).put (i + k) (.int .i64 ((o ^^^ m : Nat) : Int))
                rw [nv_set] at this; exact this
              go_wp2
              go_roundw
              case rel => exact ⟨k + 1, _, by omega, by go_num, by rw [List.length_set]; exact ho1, by rw [List.length_set]; exact ho2, HL2, by rw [← Nat.add_assoc]; exact HP2.out, hk1, hW1⟩
              case measure => simp [intOf]; omega
            · obtain rfl : k = ys.length := by omega
              have hP2 := HP.out
              rw [List.drop_length] at hP2
              have HP2 : Hid (Gf.outer F (xs.drop (i + 1)) ys (i + 1) ot = Gf.prod F xs ys) := hP2
              clear hP2
              go_wp2
              go_roundw
              case rel => exact ⟨i + 1, ot, by omega, by go_num, ho1, ho2, HO, HP2, HBk, HW⟩
              case measure => simp [intOf]; omega
        · obtain rfl : i = xs.length := by omega
          have hP2 := HP.out
          rw [List.drop_length] at hP2
          have HP2 : Hid (out = Gf.prod F xs ys) := hP2
          clear hP2
          have cF : wo.cell? ⟨q1, 0, none⟩ = some (.pointer (some ⟨g, 0, none⟩)) := cell_up x0 HW.out
          go_wp2_with fail
          refine (newPoly_any g _ out _ (RdT.of_blk HBk.out (by rw [nv_len]; omega) (by rw [nv_len]; omega) (by unfold maxLen; omega)) (by intro h0; rw [h0] at ho2; simp only [List.length_nil] at ho2; omega)).mono ?_
          rintro e w1 ⟨q, rfl, hq, hb1'⟩
          rw [HP2.out] at hq
          go_wp2
          go_ret2
          exact ⟨q, rfl, hq, bup HW.out hb1'⟩
end Go.Proofs.YtopfdmmimgnciaaGreatDoor
