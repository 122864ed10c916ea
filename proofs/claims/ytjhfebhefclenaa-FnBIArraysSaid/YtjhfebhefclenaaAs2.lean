/-
  WALK: spec.BISteps.
-/
import Derived.Test.YtjhfebhefclenaaAs1
import Derived.Test.YtjhfebhefclenaaEl
import Derived.Test.YtjhfebhefclenaaBb
namespace Go.Proofs.Ytjhfebhefclenaa
open Go.RowKit

theorem info_st : (Try.prog.info? 32).map (fun i => (i.zero, i.size, i.bytes)) = some (some (.agg #[.int .i64 0, .int .i64 0, .int .i64 0, .slice none 0 0]), 4, 48) := by kernel_rfl
theorem st_parts : ∃ i, Try.prog.info? 32 = some i ∧ i.zero = some (.agg #[.int .i64 0, .int .i64 0, .int .i64 0, .slice none 0 0]) ∧ i.size = 4 ∧ i.bytes = 48 := by
  obtain ⟨i, hi, hh⟩ := Option.map_eq_some_iff.1 info_st
  simp only [Prod.mk.injEq] at hh
  exact ⟨i, hi, hh.1, hh.2.1, hh.2.2⟩
theorem list_app4 {P : Program} {w : World} {ops : Array Oper} {rest : List Oper} {o : Oper} {a : Act} {Q : Exit → Act → World → Prop} (hgd : o.guard = none) (s x : Operand) (t : TypeId)
    (ho : o.op = .call { callee := .builtin .append, args := #[s, x], argTypes := #[t, t] })
    (base : Nat) (e : TypeId) (i : TypeInfo) (z : Value) (bytes : Nat) (ht : P.underlying t = some (.slice e)) (hi : P.info? e = some i) (hz : i.zero = some z)
    (hsize : i.size = 4) (hby : i.bytes = bytes) (hzs : z.cells.size = 4)
    (v : Value) (n : Nat) (xs : List Value) (hs : a.eval s = v) (hown : w.ownsRow base e 4 v n xs) (ad : Addr) (c : Nat) (news : List Value) (hx : a.eval x = .slice (some ad) 1 c) (hl : news.length = 4)
    (hnews : ∀ j u, news[j]? = some u → w.cell? (ad.add j) = some u) (h1 : ∀ u ∈ news, u.oneCell' = true)
    (h63 : n + 1 ≤ maxLen) (hbytes : (n + 1) * bytes ≤ 140737488355328) (hbase : base ≤ w.heap.size)
    (h : ∀ v' w', w'.ownsRow base e 4 v' (n + 1) (xs ++ news) → w.grownBy w' v.ownBlock → wpList P ops Q rest (a.put o.dst v') w') : wpList P ops Q (o :: rest) a w :=
  wpList_plain hgd fun _ hK => by
    obtain ⟨v', w', hrun, h2, h3, _, _⟩ := run_append_own_at (P := P) w base t o.type e i z 4 bytes ht hi hz hsize hby hzs (by omega) v n xs hown ad 1 c news hl hnews h1 h63 hbytes hbase
    unfold Oper.wp execOp
    simp only [ho, resolve, invoke, builtin, Sem.run_bind, Sem.run_pure, Result.andThen_ok, List.map_toArray, List.map_cons, List.map_nil, hs, hx, hrun]
    exact hK _ _ (h v' w' h2 h3)
/-- A step's cells. -/
def stC (s : Step) (u : Value) : List Value := [.int .i64 s.op, .int .i64 s.a, .int .i64 s.b, u]
/-- Cells that lie as steps; their bits lie below block B of world w. -/
def StL (w : World) (B : Nat) (cells : List Value) (st : List Step) : Prop :=
  ∃ us : List Value, us.length = st.length ∧ cells = ((st.zip us).map fun p => stC p.1 p.2).flatten ∧ ∀ (i : Nat) (s : Step) (u : Value), st[i]? = some s → us[i]? = some u → Rd w B u (bv s.bits)
theorem StL.nil_ (w : World) (B : Nat) : StL w B [] [] := ⟨[], rfl, rfl, fun i s u h => by simp at h⟩
theorem StL.app {w : World} {B : Nat} {cells : List Value} {st : List Step} {s : Step} {u : Value} (h : StL w B cells st) (hu : Rd w B u (bv s.bits)) : StL w B (cells ++ stC s u) (st ++ [s]) := by
  obtain ⟨us, h1, h2, h3⟩ := h
  refine ⟨us ++ [u], by simp [h1], ?_, fun i s' u' hs' hu' => ?_⟩
  · rw [h2, List.zip_append h1.symm]; simp
  · by_cases hlt : i < st.length
    · rw [List.getElem?_append_left hlt] at hs'
      rw [List.getElem?_append_left (by omega)] at hu'
      exact h3 i s' u' hs' hu'
    · have hi2 : i < (st ++ [s]).length := (List.getElem?_eq_some_iff.1 hs').1
      have hie : i = st.length := by simp at hi2; omega
      subst hie
      rw [List.getElem?_append_right (Nat.le_refl _), Nat.sub_self] at hs'
      rw [← h1, List.getElem?_append_right (Nat.le_refl _), Nat.sub_self] at hu'
      simp at hs' hu'
      subst hs' hu'
      exact hu
theorem flat4 (l : List (List Value)) (h : ∀ x ∈ l, x.length = 4) (i j : Nat) (hj : j < 4) (x : List Value) (hx : l[i]? = some x) : l.flatten[i * 4 + j]? = x[j]? := by
  induction l generalizing i with
  | nil => simp at hx
  | cons y r ih =>
    have hy := h y (List.mem_cons_self ..)
    cases i with
    | zero =>
      simp at hx; subst hx
      rw [List.flatten_cons, List.getElem?_append_left (by omega), Nat.zero_mul, Nat.zero_add]
    | succ i =>
      rw [List.getElem?_cons_succ] at hx
      rw [List.flatten_cons, List.getElem?_append_right (by omega), hy, show (i + 1) * 4 + j - 4 = i * 4 + j by omega]
      exact ih (fun x hx => h x (List.mem_cons_of_mem _ hx)) i hx
theorem StL.rd {w w' : World} {B base n : Nat} {v : Value} {cells : List Value} {st : List Step} (h : StL w B cells st) (hb : Below B w w') (hn : n = st.length) (ho : w'.ownsRow base 32 4 v n cells) (hB : B ≤ w'.heap.size) : RdS w' w'.heap.size v st := by
  subst hn
  obtain ⟨us, h1, h2, h3⟩ := h
  obtain ⟨k1, k2 | ⟨g, cap, cur, hv, hbg, hg, hn, hc, hs, ht⟩⟩ := ho
  · obtain ⟨rfl, hst⟩ := k2
    have : st = [] := List.eq_nil_of_length_eq_zero hst
    subst this
    exact ⟨none, 0, rfl, Nat.le_refl _, by decide, fun h => absurd h (by simp)⟩
  · refine ⟨_, cap, hv, hn, hc, fun hp => ⟨g, 0, rfl, Blk.lt (w := w') (g := g) (t := 32) (cs := cur) hg, fun i s hi => ?_⟩⟩
    have hil : i < st.length := (List.getElem?_eq_some_iff.1 hi).1
    have hu : us[i]? = some (us[i]'(by omega)) := List.getElem?_eq_getElem (by omega)
    have hz : ((st.zip us).map fun p => stC p.1 p.2)[i]? = some (stC s (us[i]'(by omega))) := by
      rw [List.getElem?_map, List.getElem?_zip_eq_some (z := (s, us[i]'(by omega))) |>.2 ⟨hi, hu⟩]; rfl
    have hcell : ∀ j, j < 4 → w'.cell? ⟨g, 0 + i * 4 + j, none⟩ = (stC s (us[i]'(by omega)))[j]? := fun j hj => by
      rw [Blk.cell (w := w') (g := g) (t := 32) (cs := cur) hg, Nat.zero_add]
      have hlt : i * 4 + j < st.length * 4 := by omega
      have := flat4 _ (fun x hx => by simp only [List.mem_map] at hx; obtain ⟨p, _, rfl⟩ := hx; rfl) i j hj _ hz
      rw [← this, ← h2, ← ht, List.getElem?_take_of_lt (by omega)]
      simp
    exact ⟨us[i]'(by omega), hcell 0 (by omega), hcell 1 (by omega), hcell 2 (by omega), hcell 3 (by omega), ((h3 i s _ hi hu).below hb).more hB⟩
end Go.Proofs.Ytjhfebhefclenaa
