/-
  WALKS: spec.RSTidy, impl.poly, GetCoefficient, laws.rsPoly, impl.PolyCoefficient, and the law of coefficients.
-/
import Derived.Test.YtibdeekgcbmofaaRs7
namespace Go.Proofs.Ytibdeekgcbmofaa
open Go.RowKit

theorem nv_one (xs : List Nat) : ∀ u ∈ nv xs, u.oneCell' = true := fun u hu => by
  simp only [nv, List.mem_map] at hu
  obtain ⟨x, _, rfl⟩ := hu
  rfl
theorem nv_drop (xs : List Nat) (k : Nat) : nv (xs.drop k) = (nv xs).drop k := by simp [nv]

set_option maxRecDepth 100000 in
set_option maxHeartbeats 1000000 in
/-- spec.RSTidy. -/
theorem tidy_any (l : Value) (xs : List Nat) (w : World) (hl : Rd w w.heap.size l (nv xs)) (hne : xs ≠ []) (h4 : xs.length ≤ 65536) :
    Calls Try.prog 17 #[l] w fun e w' => ∃ v, e = .returned v ∧ RdT w' 3 v (nv (tidy xs)) ∧ Below w.heap.size w w' := by
  have hpos : 0 < xs.length := by rcases xs with _ | ⟨x, r⟩; exact absurd rfl hne; simp
  have hl0 := hl
  obtain ⟨A, ca, rfl, ha1, ha2, ha3⟩ := hl
  simp only [nv_len] at *
  unfold maxLen at ha2
  obtain ⟨ba, oa, rfl, hba, hca⟩ := ha3 hpos
  have HL := Lib.hid hl0; clear hl0
  have HC := Lib.hid hca; clear hca
  clear hne ha3
  obtain ⟨i0, hi0, hz0, hz1, hz2⟩ := info_parts info_int
  go_enter Try.func17, Try.ntmps17
  go_wp2
  go_loop [3] (fun i => ∃ k : Nat, k < xs.length ∧ i = .int .i64 k ∧ Hid (∀ j, j < k → xs.getD j 1 = 0)) (fun i => xs.length - (intOf i).toNat)
  case atStart => exact ⟨0, hpos, rfl, fun j hj => absurd hj (Nat.not_lt_zero _)⟩
  case round =>
    obtain ⟨k, hk, rfl, HZ⟩ := hrel
    have hend : (xs.getD k 0 ≠ 0 ∨ k + 1 = xs.length) → tidy xs = xs.drop k := by
      rintro (h | h)
      · exact tidy_drop k xs HZ.out hk h
      · exact tidy_last k xs HZ.out h
    have HN := Lib.hid hend; clear hend
    by_cases hlt : k + 1 < xs.length
    · have hck := HC.out k _ (nv_at xs k hk)
      by_cases hxk : xs[k] = 0
      · have e2 : (((xs[k] : Nat) : Int) == 0) = true := by simp [hxk]
        have HXK := Lib.hid hxk; clear hxk
        have hlt' : (k : Int) < (xs.length : Int) - 1 := by omega
        go_wp2
        go_round
        case rel => exact ⟨k + 1, hlt, by go_num, fun j hj => by
          by_cases hjk : j < k
          · exact HZ.out j hjk
          · rw [show j = k from by omega, getD_lt _ _ _ hk]; exact HXK.out⟩
        case measure => simp [intOf]; omega
      · have e2 : (((xs[k] : Nat) : Int) == 0) = false := by simp [hxk]
        have ht : tidy xs = xs.drop k := HN.out (.inl (by rw [getD_lt _ _ _ hk]; exact hxk))
        clear HN hxk
        have hlt' : (k : Int) < (xs.length : Int) - 1 := by omega
        have HT := Lib.hid ht; clear ht
        go_wp2_with (at_builtin; refine list_app_rd _ rfl _ _ _ rfl w.heap.size 3 i0 _ 8 Try.underlying24 hi0 hz0 hz1 hz2 rfl _ 0 [] rfl
                                        (own_empty (Blk.fresh _ _ _) (Nat.le_refl _)) _ _ (nv (xs.drop k)) rfl (by rw [nv_drop]; exact ((HL.out.below ((Below.refl _ _).alloc (Nat.le_refl _) _)).drop hk)) (nv_one _)
                                        (by rw [nv_len, List.length_drop]; unfold maxLen; omega) (by rw [nv_len, List.length_drop]; omega) (by simp) ?_; intro v1 w1 ho1 hg1)
        go_ret
        refine ⟨_, rfl, ?_, ?_⟩
        · rw [HT.out]; simpa using RdT.of_own ho1
        · exact below_grown (bal (brf w) _) hg1 (own_empty (Blk.fresh _ _ _) (Nat.le_refl _)) (by simp)
    · have ht : tidy xs = xs.drop k := HN.out (.inr (by omega))
      have hlt' : ¬ (k : Int) < (xs.length : Int) - 1 := by omega
      have hd : decide ((k : Int) < (xs.length : Int) - 1) = false := by simpa using hlt'
      clear HN
      have HT := Lib.hid ht; clear ht
      go_wp2_with (at_builtin; refine list_app_rd _ rfl _ _ _ rfl w.heap.size 3 i0 _ 8 Try.underlying24 hi0 hz0 hz1 hz2 rfl _ 0 [] rfl
                                        (own_empty (Blk.fresh _ _ _) (Nat.le_refl _)) _ _ (nv (xs.drop k)) rfl (by rw [nv_drop]; exact ((HL.out.below ((Below.refl _ _).alloc (Nat.le_refl _) _)).drop hk)) (nv_one _)
                                        (by rw [nv_len, List.length_drop]; unfold maxLen; omega) (by rw [nv_len, List.length_drop]; omega) (by simp) ?_; intro v1 w1 ho1 hg1)
      go_ret
      refine ⟨_, rfl, ?_, ?_⟩
      · rw [HT.out]; simpa using RdT.of_own ho1
      · exact below_grown (bal (brf w) _) hg1 (own_empty (Blk.fresh _ _ _) (Nat.le_refl _)) (by simp)

/-- GetCoefficient. -/
theorem coefficient_any (q g : Nat) (l : List Nat) (k : Nat) (w : World) (hp : PolyAt w q g l) (hk : k < l.length) :
    Calls Try.prog 43 #[.pointer (some ⟨q, 0, none⟩), .int .i64 k] w fun e w' => e = .returned (.int .i64 ((l.getD (l.length - 1 - k) 0 : Nat) : Int)) ∧ Below w.heap.size w w' := by
  obtain ⟨sl, h1, h2⟩ := hp
  obtain ⟨A, ca, rfl, ha1, ha2, ha3⟩ := h2.rd
  simp only [nv_len] at *
  unfold maxLen at ha2
  obtain ⟨ba, oa, rfl, hba, hca⟩ := ha3 (by omega)
  have c1 : w.cell? ⟨q, 1, none⟩ = some (.slice (some ⟨ba, oa, none⟩) l.length ca) := by rw [h1.cell]; rfl
  have c2 := hca (l.length - 1 - k) _ (nv_at l (l.length - 1 - k) (by omega))
  have hi : ((l.length : Int) - 1 - (k : Int)).toNat = l.length - 1 - k := by omega
  have hg : l.getD (l.length - 1 - k) 0 = l[l.length - 1 - k]'(by omega) := getD_lt _ _ _ (by omega)
  rw [hg]
  clear hg ha3 hca h1 h2
  generalize l[l.length - 1 - k]'(by omega) = r at *
  go_enter Try.func43, Try.ntmps43
  go_wp2
  go_quiet (fail)
  go_wp2
  go_ret
  exact ⟨rfl, bdn (brf w) _⟩

/-- laws.rsPoly. -/
def polyOf (F : Gf.Fd) (xs : List Int) (most : Nat) : List Nat := tidy (if (xs.take most).map (el F) = [] then [0] else (xs.take most).map (el F))
theorem polyOf_tidy (F : Gf.Fd) (xs : List Int) (most : Nat) : Tidy (polyOf F xs most) := by
  unfold polyOf
  split
  · exact tidy_tidy _ (by simp)
  · exact tidy_tidy _ (by assumption)
theorem polyOf_len (F : Gf.Fd) (xs : List Int) (most : Nat) (h : 1 ≤ most) : (polyOf F xs most).length ≤ most := by
  unfold polyOf
  refine Nat.le_trans (tidy_len _) ?_
  split
  · simpa using h
  · simp; omega
theorem polyOf_lt (F : Gf.Fd) (xs : List Int) (most : Nat) : ∀ x ∈ polyOf F xs most, x < F.s := by
  intro x hx
  have h1 := Gf.s_pos F
  have hx := tidy_mem _ x hx
  split at hx
  · simp at hx; omega
  · obtain ⟨y, _, rfl⟩ := List.mem_map.1 hx; exact el_lt F y
end Go.Proofs.Ytibdeekgcbmofaa
