/-
  GROUND: an append that tells in which block its result lies.
-/
import Derived.Test.YtjpcajecmfhppaaDoorBase
namespace Go.Proofs.YtjpcajecmfhppaaDoor
open Go.RowKit

section
variable {P : Program} {w : World}
theorem run_app2 (base : Nat) (t ty e : TypeId) (i : TypeInfo) (z : Value) (bytes : Nat) (ht : P.underlying t = some (.slice e)) (hi : P.info? e = some i) (hz : i.zero = some z)
    (hsize : i.size = 1) (hby : i.bytes = bytes) (hzs : z.cells.size = 1)
    (v : Value) (n : Nat) (xs : List Value) (hown : w.ownsRow base e 1 v n xs) (B : Nat) (src : Value) (ys : List Value) (hr : Rd w B src ys) (h1 : ∀ u ∈ ys, u.oneCell' = true)
    (h63 : n + ys.length ≤ maxLen) (hbytes : (n + ys.length) * bytes ≤ 140737488355328) (hbase : base ≤ w.heap.size) :
    ∃ v' w', (Builtin.append_ #[t, t] ty #[v, src]).run P w = .ok v' w' ∧ w'.ownsRow base e 1 v' (n + ys.length) (xs ++ ys) ∧ w.grownBy w' v.ownBlock ∧ (v'.ownBlock = v.ownBlock ∨ v'.ownBlock = some w.heap.size) := by
  obtain ⟨A, cap, rfl, _, _, h3⟩ := hr
  rcases A with _ | ad
  · have hn : ys = [] := by
      rcases ys with _ | ⟨y, r⟩
      · rfl
      · obtain ⟨b, off, he, _⟩ := h3 (by simp); cases he
    subst hn
    exact ⟨v, w, run_app_nil w base t ty e i ht hi v n xs hown cap, by simpa using hown, World.grownBy.refl w _, .inl rfl⟩
  · have hc : ∀ j u, ys[j]? = some u → w.cell? (ad.add j) = some u := by
      intro j u hu
      have hj : j < ys.length := (List.getElem?_eq_some_iff.1 hu).1
      obtain ⟨b, off, he, _, hcc⟩ := h3 (by omega)
      injection he with he
      subst he
      have e1 : (⟨b, off, none⟩ : Addr).add j = ⟨b, off + j, none⟩ := by unfold Addr.add; split <;> simp_all
      rw [e1]; exact hcc j u hu
    obtain ⟨v', w', hrun, h2, h4, _, h5⟩ := run_append_own_at (P := P) w base t ty e i z 1 bytes ht hi hz hsize hby hzs (by omega) v n xs hown ad ys.length cap ys (by simp) hc h1 h63 hbytes hbase
    exact ⟨v', w', hrun, h2, h4, h5⟩
theorem list_app2 {ops : Array Oper} {rest : List Oper} {o : Oper} {a : Act} {Q : Exit → Act → World → Prop} (hgd : o.guard = none) (s x : Operand) (t : TypeId)
    (ho : o.op = .call { callee := .builtin .append, args := #[s, x], argTypes := #[t, t] })
    (base : Nat) (e : TypeId) (i : TypeInfo) (z : Value) (bytes : Nat) (ht : P.underlying t = some (.slice e)) (hi : P.info? e = some i) (hz : i.zero = some z)
    (hsize : i.size = 1) (hby : i.bytes = bytes) (hzs : z.cells.size = 1)
    (v : Value) (n : Nat) (xs : List Value) (hs : a.eval s = v) (hown : w.ownsRow base e 1 v n xs) (B : Nat) (src : Value) (ys : List Value) (hx : a.eval x = src) (hr : Rd w B src ys) (h1 : ∀ u ∈ ys, u.oneCell' = true)
    (h63 : n + ys.length ≤ maxLen) (hbytes : (n + ys.length) * bytes ≤ 140737488355328) (hbase : base ≤ w.heap.size)
    (h : ∀ v' w', w'.ownsRow base e 1 v' (n + ys.length) (xs ++ ys) → w.grownBy w' v.ownBlock → (v'.ownBlock = v.ownBlock ∨ v'.ownBlock = some w.heap.size) → wpList P ops Q rest (a.put o.dst v') w') : wpList P ops Q (o :: rest) a w :=
  wpList_plain hgd fun _ hK => by
    obtain ⟨v', w', hrun, h2, h3, h4⟩ := run_app2 (P := P) base t o.type e i z bytes ht hi hz hsize hby hzs v n xs hown B src ys hr h1 h63 hbytes hbase
    unfold Oper.wp execOp
    simp only [ho, resolve, invoke, builtin, Sem.run_bind, Sem.run_pure, Result.andThen_ok, List.map_toArray, List.map_cons, List.map_nil, hs, hx, hrun]
    exact hK _ _ (h v' w' h2 h3 h4)
end
theorem own_grown {w w' : World} {base n : Nat} {e : TypeId} {v : Value} {xs : List Value} {row : Option Nat} (h : w.ownsRow base e 1 v n xs) (hg : w.grownBy w' row) (ha : ∀ b, v.ownBlock = some b → row ≠ some b) : w'.ownsRow base e 1 v n xs := by
  obtain ⟨h1, h2 | ⟨r, cap, cur, rfl, hb', hr, rest⟩⟩ := h
  · exact ⟨h1, .inl h2⟩
  · refine ⟨h1, .inr ⟨r, cap, cur, rfl, hb', (hg.block r (Blk.lt (w := w) (g := r) (t := e) (cs := cur) hr) (fun he => ha r rfl he.symm)).trans hr, rest⟩⟩
theorem own_lt {w : World} {base n b : Nat} {e : TypeId} {v : Value} {xs : List Value} (h : w.ownsRow base e 1 v n xs) (hb : v.ownBlock = some b) : b < w.heap.size := by
  obtain ⟨h1, ⟨rfl, _⟩ | ⟨r, cap, cur, rfl, hb', hr, rest⟩⟩ := h
  · simp [Value.ownBlock] at hb
  · simp only [Value.ownBlock, Option.some.injEq] at hb
    subst hb
    exact Blk.lt (w := w) (g := r) (t := e) (cs := cur) hr
/-- A cell of another block is written. -/
theorem own_off {w : World} {base n size : Nat} {e : TypeId} {v : Value} {xs : List Value} (h : w.ownsRow base e size v n xs) {p : Addr} (hp : v.ownBlock ≠ some p.block) (u : Value) : (w.setCell p u).ownsRow base e size v n xs := by
  obtain ⟨h1, h2 | ⟨r, cap, cur, rfl, hb', hr, rest⟩⟩ := h
  · exact ⟨h1, .inl h2⟩
  · refine ⟨h1, .inr ⟨r, cap, cur, rfl, hb', (Below.heap_setCell w p u r (fun he => hp ?_)).trans hr, rest⟩⟩
    simp only [Value.ownBlock, Option.some.injEq]; exact he
end Go.Proofs.YtjpcajecmfhppaaDoor
