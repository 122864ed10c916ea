/-
  WALK: laws.biBits: bits, at most so many.
-/
import Derived.Test.YtjhfebhefclenaaBase
import Derived.Test.YtjhfebhefclenaaArgs
namespace Go.Proofs.Ytjhfebhefclenaa
open Go.RowKit

theorem info_parts {P : Program} {e : TypeId} {z : Value} {b : Nat} (h : (P.info? e).map (fun i => (i.zero, i.size, i.bytes)) = some (some z, 1, b)) :
    ∃ i, P.info? e = some i ∧ i.zero = some z ∧ i.size = 1 ∧ i.bytes = b := by
  obtain ⟨i, hi, hh⟩ := Option.map_eq_some_iff.1 h
  simp only [Prod.mk.injEq] at hh
  exact ⟨i, hi, hh.1, hh.2.1, hh.2.2⟩
theorem info_bool : (Try.prog.info? 4).map (fun i => (i.zero, i.size, i.bytes)) = some (some (.bool false), 1, 1) := by kernel_rfl
theorem Rd.take {w : World} {B : Nat} {A : Option Addr} {n cap k : Nat} {xs : List Value} (h : Rd w B (.slice A n cap) xs) (hk : k ≤ n) : Rd w B (.slice A k cap) (xs.take k) := by
  obtain ⟨A', cap', hv, h1, h2, h3⟩ := h
  injection hv with e1 e2 e3
  subst e1 e2 e3
  have hl : (xs.take k).length = k := by rw [List.length_take]; omega
  refine ⟨_, _, by rw [hl], by omega, h2, fun hp => ?_⟩
  obtain ⟨b, off, e, hb, hc⟩ := h3 (by omega)
  exact ⟨b, off, e, hb, fun j u hu => hc j u (by
    have hj : j < k := by have := (List.getElem?_eq_some_iff.1 hu).1; omega
    rwa [List.getElem?_take_of_lt hj] at hu)⟩

/-- laws.biBits. -/
theorem biBits_any (v : Value) (l : List Bool) (most : Nat) (w : World) (hv : Rd w w.heap.size v (bv l)) (hm : most ≤ 16384) :
    Calls Try.prog 5 #[v, .int .i64 most] w fun e w' => ∃ v', e = .returned v' ∧ Rd w' w'.heap.size v' (bv (l.take most)) ∧ Below w.heap.size w w' := by
  obtain ⟨i0, hi0, hz0, hz1, hz2⟩ := info_parts info_bool
  obtain ⟨A, cap, rfl, h1, h2, h3⟩ := id hv
  rw [bv_len] at *
  have h2' := h2
  unfold maxLen at h2
  rcases A with _ | ad
  · have hl : l = [] := by
      rcases l with _ | ⟨x, r⟩
      · rfl
      · obtain ⟨b, o, he, _⟩ := h3 (by simp); cases he
    subst hl
    have HV := Lib.hid hv; clear hv h3
    go_enter Try.func5, Try.ntmps5
    go_wp2_with (at_builtin; refine list_app_rd _ rfl _ _ _ rfl w.heap.size 4 i0 _ 1 Try.underlying22 hi0 hz0 hz1 hz2 rfl _ 0 [] rfl (own_empty (Blk.fresh _ _ _) (Nat.le_refl _)) _ _ [] rfl (HV.out.up (bal (brf w) _)) (fun u hu => absurd hu (by simp)) (by unfold maxLen; simp) (by simp) (by simp) ?_; intro v1 w2 ho1 hg1)
    go_ret
    exact ⟨_, rfl, by simpa [bv] using Rd.of_own ho1, below_grown (bal (brf w) _) hg1 (own_empty (Blk.fresh _ _ _) (Nat.le_refl _)) (by simp)⟩
  · obtain ⟨b, o, had⟩ : ∃ b o, ad = ⟨b, o, none⟩ ∨ l = [] := by
      rcases l with _ | ⟨x, r⟩
      · exact ⟨0, 0, .inr rfl⟩
      · obtain ⟨b, o, he, _⟩ := h3 (by simp); injection he with he; exact ⟨b, o, .inl he⟩
    clear had
    by_cases hlm : l.length ≤ most
    · have hmin : min (l.length : Int) (most : Int) = (l.length : Int) := by omega
      have HV := Lib.hid hv; clear hv h3
      have HT : Hid (l.take most = l) := Lib.hid (List.take_of_length_le hlm)
      go_enter Try.func5, Try.ntmps5
      go_wp2_with (at_builtin; refine list_app_rd _ rfl _ _ _ rfl w.heap.size 4 i0 _ 1 Try.underlying22 hi0 hz0 hz1 hz2 rfl _ 0 [] rfl (own_empty (Blk.fresh _ _ _) (Nat.le_refl _)) _ _ (bv l) rfl (HV.out.up (bal (brf w) _)) (bv_one _) (by rw [bv_len]; unfold maxLen; omega) (by rw [bv_len]; omega) (by simp) ?_; intro v1 w2 ho1 hg1)
      go_ret
      exact ⟨_, rfl, by rw [HT.out]; simpa using Rd.of_own ho1, below_grown (bal (brf w) _) hg1 (own_empty (Blk.fresh _ _ _) (Nat.le_refl _)) (by simp)⟩
    · have hmin : min (l.length : Int) (most : Int) = (most : Int) := by omega
      have HV := Lib.hid (hv.take (k := most) (by omega)); clear hv h3
      have HT : Hid ((bv l).take most = bv (l.take most) ∧ (bv (l.take most)).length = most) := Lib.hid ⟨by simp [bv], by rw [bv_len, List.length_take]; omega⟩
      rw [HT.out.1] at HV
      go_enter Try.func5, Try.ntmps5
      go_wp2_with (at_builtin; refine list_app_rd _ rfl _ _ _ rfl w.heap.size 4 i0 _ 1 Try.underlying22 hi0 hz0 hz1 hz2 rfl _ 0 [] rfl (own_empty (Blk.fresh _ _ _) (Nat.le_refl _)) _ _ (bv (l.take most)) rfl (HV.out.up (bal (brf w) _)) (bv_one _) (by rw [HT.out.2]; unfold maxLen; omega) (by rw [HT.out.2]; omega) (by simp) ?_; intro v1 w2 ho1 hg1)
      go_ret
      exact ⟨_, rfl, by simpa using Rd.of_own ho1, below_grown (bal (brf w) _) hg1 (own_empty (Blk.fresh _ _ _) (Nat.le_refl _)) (by simp)⟩

end Go.Proofs.Ytjhfebhefclenaa
