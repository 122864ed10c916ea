/-
  WALKS AND THE LAW of a histogram's bound.
-/
import Derived.Test.YtimfaplnhlnjlaaPx1
namespace Go.Proofs.Ytimfaplnhlnjlaa
open Go.RowKit

theorem info_parts {P : Program} {e : TypeId} {z : Value} {b : Nat} (h : (P.info? e).map (fun i => (i.zero, i.size, i.bytes)) = some (some z, 1, b)) :
    ∃ i, P.info? e = some i ∧ i.zero = some z ∧ i.size = 1 ∧ i.bytes = b := by
  obtain ⟨i, hi, hh⟩ := Option.map_eq_some_iff.1 h
  simp only [Prod.mk.injEq] at hh
  exact ⟨i, hi, hh.1, hh.2.1, hh.2.2⟩
theorem info_int : (Try.prog.info? 3).map (fun i => (i.zero, i.size, i.bytes)) = some (some (.int .i64 0), 1, 8) := by kernel_rfl
/-- What the two peaks of counts are. -/
def Peaks (cs : List Nat) (f s : Nat) : Prop := f < 32 ∧ s < 32 ∧ (∀ x, x < 32 → cs.getD x 0 ≤ cs.getD f 0) ∧ ((∀ x, x < 32 → x ≠ f → cs.getD x 0 = 0) ∨ (0 < cs.getD s 0 ∧ s ≠ f))
theorem point_any (v : Value) (cs : List Nat) (w : World) (hv : Rd w w.heap.size v (nv cs)) (hl : cs.length = 32) (hc : ∀ i, cs.getD i 0 < 65536) :
    Calls Try.prog 22 #[v] w fun e w' => Below w.heap.size w w' ∧ ∃ f s : Nat, Peaks cs f s ∧
      ((max f s ≤ min f s + 2 ∧ ∃ t x, e = .returned (.tuple #[.int .i64 0, .iface t x])) ∨ (∃ b : Nat, min f s < b ∧ b < max f s ∧ e = .returned (.tuple #[.int .i64 ((8 * b : Nat) : Int), .nilIface]))) := by
  go_enter Try.func22, Try.ntmps22
  go_wp2_with fail
  refine (estimate_any _ v cs _ (hv.up (bal (brf w) _)) hl hc).mono ?_
  rintro e w1 ⟨hb1, f, s, h1, h2, h3, h4, ⟨h5, t, x, rfl⟩ | ⟨b, h5, h6, rfl⟩⟩
  · have HR : Hid (Below w.heap.size w w1 ∧ Peaks cs f s) := Lib.hid ⟨bup (bal (brf w) _) hb1, h1, h2, h3, h4⟩
    clear hb1 h1 h2 h3 h4 hc hl hv
    go_wp2
    go_ret2
    exact ⟨HR.out.1, f, s, HR.out.2, .inl ⟨h5, t, x, rfl⟩⟩
  · have HR : Hid (Below w.heap.size w w1 ∧ Peaks cs f s) := Lib.hid ⟨bup (bal (brf w) _) hb1, h1, h2, h3, h4⟩
    clear hb1 h1 h2 h3 h4 hc hl hv
    go_wp2
    go_ret2
    exact ⟨HR.out.1, f, s, HR.out.2, .inr ⟨b, h5, h6, rfl⟩⟩
theorem blackPoint_any (v : Value) (cs : List Nat) (w : World) (hv : Rd w w.heap.size v (nv cs)) (hl : cs.length = 32) (hc : ∀ i, cs.getD i 0 < 65536) :
    Calls Try.prog 8 #[v] w fun e w' => Below w.heap.size w w' ∧ ∃ f s : Nat, Peaks cs f s ∧
      ((max f s ≤ min f s + 2 ∧ e = .returned (.tuple #[.int .i64 0, .bool false])) ∨ (∃ b : Nat, min f s < b ∧ b < max f s ∧ e = .returned (.tuple #[.int .i64 ((8 * b : Nat) : Int), .bool true]))) := by
  obtain ⟨i0, hi0, hz0, hz1, hz2⟩ := info_parts info_int
  have HV := Lib.hid hv; clear hv
  have HL := Lib.hid hl; clear hl
  have HC := Lib.hid hc; clear hc
  go_enter Try.func8, Try.ntmps8
  go_wp2_with (at_builtin; refine list_app_rd _ rfl _ _ _ rfl w.heap.size 3 i0 _ 8 Try.underlying23 hi0 hz0 hz1 hz2 rfl _ 0 [] rfl (own_nil _ _ _) _ _ (nv cs) rfl HV.out (nv_one _) (by rw [nv_len, HL.out]; decide) (by rw [nv_len, HL.out]; decide) (Nat.le_refl _) ?_; intro v1 w1 ho1 hg1)
  have HO := Lib.hid (Rd.of_own ho1)
  have HB := Lib.hid (below_grown (brf w) hg1 (own_nil _ _ 3) (Nat.le_refl _))
  clear ho1 hg1
  go_wp2_with fail
  refine (point_any v1 cs w1 (by simpa using HO.out) HL.out HC.out).mono ?_
  rintro e w2 ⟨hb2, f, s, hp, ⟨h5, t, x, rfl⟩ | ⟨b, h5, h6, rfl⟩⟩
  · have HR : Hid (Below w.heap.size w w2 ∧ Peaks cs f s) := Lib.hid ⟨bup HB.out hb2, hp⟩
    clear hb2 hp
    go_wp2
    go_quiet (fail)
    go_wp2
    go_ret2
    exact ⟨bdn HR.out.1 _, f, s, HR.out.2, .inl ⟨h5, rfl⟩⟩
  · have HR : Hid (Below w.heap.size w w2 ∧ Peaks cs f s) := Lib.hid ⟨bup HB.out hb2, hp⟩
    clear hb2 hp
    go_wp2
    go_quiet (fail)
    go_wp2
    go_ret2
    exact ⟨bdn HR.out.1 _, f, s, HR.out.2, .inr ⟨b, h5, h6, rfl⟩⟩

/-- How many of the first k counts are not 0. -/
def cntN (c : Nat → Nat) : Nat → Nat
  | 0 => 0
  | k + 1 => cntN c k + if 0 < c k then 1 else 0
theorem cntN_le (c : Nat → Nat) (k : Nat) : cntN c k ≤ k := by
  induction k with
  | zero => exact Nat.le_refl _
  | succ k ih => unfold cntN; split <;> omega
theorem cntN_strike (c : Nat → Nat) (a k : Nat) (ha : 0 < c a) (hk : a < k) : cntN c k = cntN (fun x => if x = a then 0 else c x) k + 1 := by
  have low : ∀ m, m ≤ a → cntN (fun x => if x = a then 0 else c x) m = cntN c m := by
    intro m hm
    induction m with
    | zero => rfl
    | succ m ih => unfold cntN; rw [ih (by omega), if_neg (by omega : ¬ m = a)]
  induction k with
  | zero => omega
  | succ k ih =>
    by_cases h : a = k
    · subst h
      unfold cntN
      rw [low a (Nat.le_refl _)]
      simp [ha]
    · unfold cntN
      rw [ih (by omega), if_neg (by omega : ¬ k = a)]
      omega
theorem cntN_zero (c : Nat → Nat) (k : Nat) (h : ∀ x, x < k → c x = 0) : cntN c k = 0 := by
  induction k with
  | zero => rfl
  | succ k ih => unfold cntN; rw [ih (fun x hx => h x (by omega)), h k (by omega)]; rfl
/-- Two that are not 0: there is one besides any. -/
theorem cntN_two (c : Nat → Nat) (k f : Nat) (h : 2 ≤ cntN c k) : ∃ x, x < k ∧ x ≠ f ∧ 0 < c x := by
  refine Classical.byContradiction fun hn => ?_
  have hz : ∀ x, x < k → x ≠ f → c x = 0 := fun x hx hf => by
    rcases Nat.eq_zero_or_pos (c x) with h0 | h0
    · exact h0
    · exact absurd ⟨x, hx, hf, h0⟩ hn
  by_cases hf : f < k ∧ 0 < c f
  · have h2 : cntN (fun x => if x = f then 0 else c x) k = 0 := cntN_zero _ k (fun x hx => by
      show (if x = f then 0 else c x) = 0
      by_cases hxf : x = f
      · rw [if_pos hxf]
      · rw [if_neg hxf]; exact hz x hx hxf)
    rw [cntN_strike c f k hf.2 hf.1, h2] at h
    omega
  · rw [cntN_zero c k (fun x hx => by
      by_cases hxf : x = f
      · subst hxf; omega
      · exact hz x hx hxf)] at h
    omega
/-- Just two that are not 0: besides them there is none. -/
theorem cntN_just (c : Nat → Nat) (k f s x : Nat) (h : cntN c k = 2) (hf : f < k) (hs : s < k) (hx : x < k) (hcf : 0 < c f) (hcs : 0 < c s) (hcx : 0 < c x) (hfs : s ≠ f) : x = f ∨ x = s := by
  refine Classical.byContradiction fun hn => ?_
  have hxf : x ≠ f := fun h => hn (.inl h)
  have hxs : x ≠ s := fun h => hn (.inr h)
  obtain ⟨d, hd⟩ : ∃ d : Nat → Nat, d = fun x => if x = f then 0 else c x := ⟨_, rfl⟩
  obtain ⟨g, hg⟩ : ∃ g : Nat → Nat, g = fun x => if x = s then 0 else d x := ⟨_, rfl⟩
  have hds : 0 < d s := by rw [hd]; show 0 < if s = f then 0 else c s; rw [if_neg hfs]; exact hcs
  have hgx : 0 < g x := by rw [hg, hd]; show 0 < if x = s then 0 else if x = f then 0 else c x; rw [if_neg hxs, if_neg hxf]; exact hcx
  have e1 := cntN_strike c f k hcf hf
  have e2 := cntN_strike d s k hds hs
  have e3 := cntN_strike g x k hgx hx
  rw [← hd] at e1
  rw [← hg] at e2
  omega
end Go.Proofs.Ytimfaplnhlnjlaa
