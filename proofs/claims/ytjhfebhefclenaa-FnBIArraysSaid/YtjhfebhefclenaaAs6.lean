/-
  GROUND: two rows of bools beside each other, one of which grows or is written.
-/
import Derived.Test.YtjhfebhefclenaaAs4
namespace Go.Proofs.Ytjhfebhefclenaa
open Go.RowKit

section
variable {P : Program} {w : World}
theorem run_app2 (base : Nat) (t ty e : TypeId) (i : TypeInfo) (z : Value) (bytes : Nat) (ht : P.underlying t = some (.slice e)) (hi : P.info? e = some i) (hz : i.zero = some z)
    (hsize : i.size = 1) (hby : i.bytes = bytes) (hzs : z.cells.size = 1)
    (v : Value) (n : Nat) (xs : List Value) (hown : w.ownsRow base e 1 v n xs) (B : Nat) (src : Value) (ys : List Value) (hr : Rd w B src ys) (h1 : ∀ u ∈ ys, u.oneCell' = true)
    (h63 : n + ys.length ≤ maxLen) (hbytes : (n + ys.length) * bytes ≤ 140737488355328) (hbase : base ≤ w.heap.size) :
    ∃ v' w', (Builtin.append_ #[t, t] ty #[v, src]).run P w = .ok v' w' ∧ w'.ownsRow base e 1 v' (n + ys.length) (xs ++ ys) ∧ w.grownBy w' v.ownBlock ∧ (v'.ownBlock = v.ownBlock ∨ v'.ownBlock = some w.heap.size) := by
  obtain ⟨A, cap, rfl, _, _, h3⟩ := hr
  rcases A with _ | ad
  · have hn : ys = [] := by
      rcases ys with _ | ⟨y, r⟩
      · rfl
      · obtain ⟨b, off, he, _⟩ := h3 (by simp); cases he
    subst hn
    exact ⟨v, w, run_app_nil w base t ty e i ht hi v n xs hown cap, by simpa using hown, World.grownBy.refl w _, .inl rfl⟩
  · have hc : ∀ j u, ys[j]? = some u → w.cell? (ad.add j) = some u := by
      intro j u hu
      have hj : j < ys.length := (List.getElem?_eq_some_iff.1 hu).1
      obtain ⟨b, off, he, _, hcc⟩ := h3 (by omega)
      injection he with he
      subst he
      have e1 : (⟨b, off, none⟩ : Addr).add j = ⟨b, off + j, none⟩ := by unfold Addr.add; split <;> simp_all
      rw [e1]; exact hcc j u hu
    obtain ⟨v', w', hrun, h2, h4, _, h5⟩ := run_append_own_at (P := P) w base t ty e i z 1 bytes ht hi hz hsize hby hzs (by omega) v n xs hown ad ys.length cap ys (by simp) hc h1 h63 hbytes hbase
    exact ⟨v', w', hrun, h2, h4, h5⟩
theorem list_app2 {ops : Array Oper} {rest : List Oper} {o : Oper} {a : Act} {Q : Exit → Act → World → Prop} (hgd : o.guard = none) (s x : Operand) (t : TypeId)
    (ho : o.op = .call { callee := .builtin .append, args := #[s, x], argTypes := #[t, t] })
    (base : Nat) (e : TypeId) (i : TypeInfo) (z : Value) (bytes : Nat) (ht : P.underlying t = some (.slice e)) (hi : P.info? e = some i) (hz : i.zero = some z)
    (hsize : i.size = 1) (hby : i.bytes = bytes) (hzs : z.cells.size = 1)
    (v : Value) (n : Nat) (xs : List Value) (hs : a.eval s = v) (hown : w.ownsRow base e 1 v n xs) (B : Nat) (src : Value) (ys : List Value) (hx : a.eval x = src) (hr : Rd w B src ys) (h1 : ∀ u ∈ ys, u.oneCell' = true)
    (h63 : n + ys.length ≤ maxLen) (hbytes : (n + ys.length) * bytes ≤ 140737488355328) (hbase : base ≤ w.heap.size)
    (h : ∀ v' w', w'.ownsRow base e 1 v' (n + ys.length) (xs ++ ys) → w.grownBy w' v.ownBlock → (v'.ownBlock = v.ownBlock ∨ v'.ownBlock = some w.heap.size) → wpList P ops Q rest (a.put o.dst v') w') : wpList P ops Q (o :: rest) a w :=
  wpList_plain hgd fun _ hK => by
    obtain ⟨v', w', hrun, h2, h3, h4⟩ := run_app2 (P := P) base t o.type e i z bytes ht hi hz hsize hby hzs v n xs hown B src ys hr h1 h63 hbytes hbase
    unfold Oper.wp execOp
    simp only [ho, resolve, invoke, builtin, Sem.run_bind, Sem.run_pure, Result.andThen_ok, List.map_toArray, List.map_cons, List.map_nil, hs, hx, hrun]
    exact hK _ _ (h v' w' h2 h3 h4)
end
theorem own_grown {w w' : World} {base n : Nat} {e : TypeId} {v : Value} {xs : List Value} {row : Option Nat} (h : w.ownsRow base e 1 v n xs) (hg : w.grownBy w' row) (ha : ∀ b, v.ownBlock = some b → row ≠ some b) : w'.ownsRow base e 1 v n xs := by
  obtain ⟨h1, h2 | ⟨r, cap, cur, rfl, hb', hr, rest⟩⟩ := h
  · exact ⟨h1, .inl h2⟩
  · refine ⟨h1, .inr ⟨r, cap, cur, rfl, hb', (hg.block r (Blk.lt (w := w) (g := r) (t := e) (cs := cur) hr) (fun he => ha r rfl he.symm)).trans hr, rest⟩⟩
theorem own_lt {w : World} {base n b : Nat} {e : TypeId} {v : Value} {xs : List Value} (h : w.ownsRow base e 1 v n xs) (hb : v.ownBlock = some b) : b < w.heap.size := by
  obtain ⟨h1, ⟨rfl, _⟩ | ⟨r, cap, cur, rfl, hb', hr, rest⟩⟩ := h
  · simp [Value.ownBlock] at hb
  · simp only [Value.ownBlock, Option.some.injEq] at hb
    subst hb
    exact Blk.lt (w := w) (g := r) (t := e) (cs := cur) hr
/-- Two rows of bools, apart. -/
structure Two (w0 wr : World) (ov : Value) (L : List Bool) (tv : Value) (T : List Bool) (m : Nat) : Prop where
  out : wr.ownsRow w0.heap.size 4 1 ov L.length (bv L)
  tk : wr.ownsRow w0.heap.size 4 1 tv m (bv T)
  apart : ∀ b, ov.ownBlock = some b → tv.ownBlock ≠ some b
  below : Below w0.heap.size w0 wr
theorem Two.up {w0 wr w1 : World} {ov tv : Value} {L T : List Bool} {m : Nat} (h : Two w0 wr ov L tv T m) (h1 : Below wr.heap.size wr w1) : Two w0 w1 ov L tv T m :=
  ⟨own_up h.out h1, own_up h.tk h1, h.apart, h.below.trans (h1.mono h.below.size)⟩
theorem Two.appT {w0 wr w1 : World} {ov tv tv' : Value} {L T : List Bool} {m : Nat} {b : Bool} (h : Two w0 wr ov L tv T m) (ho : w1.ownsRow w0.heap.size 4 1 tv' (m + 1) (bv T ++ [.bool b])) (hg : wr.grownBy w1 tv.ownBlock) (hl : tv'.ownBlock = tv.ownBlock ∨ tv'.ownBlock = some wr.heap.size) :
    Two w0 w1 ov L tv' (T ++ [b]) (m + 1) := by
  refine ⟨own_grown h.out hg (fun b hb => h.apart b hb), by unfold bv at ho ⊢; rw [List.map_append]; exact ho, fun x hx => ?_, below_grown h.below hg h.tk h.below.size⟩
  rcases hl with hl | hl
  · rw [hl]; exact h.apart x hx
  · rw [hl]
    have := own_lt h.out hx
    intro he; injection he with he; omega
theorem Two.appO {w0 wr w1 : World} {ov ov' tv : Value} {L L2 T : List Bool} {m : Nat} (h : Two w0 wr ov L tv T m) (ho : w1.ownsRow w0.heap.size 4 1 ov' (L.length + (bv L2).length) (bv L ++ bv L2)) (hg : wr.grownBy w1 ov.ownBlock) (hl : ov'.ownBlock = ov.ownBlock ∨ ov'.ownBlock = some wr.heap.size) :
    Two w0 w1 ov' (L ++ L2) tv T m := by
  refine ⟨?_, own_grown h.tk hg (fun b hb he => h.apart b he hb), fun x hx => ?_, below_grown h.below hg h.out h.below.size⟩
  · rw [bv_len] at ho
    rw [List.length_append]
    unfold bv at ho ⊢; rw [List.map_append]; exact ho
  · rcases hl with hl | hl
    · rw [hl] at hx; exact h.apart x hx
    · rw [hl] at hx
      injection hx with hx
      intro he
      have := own_lt h.tk he
      omega
theorem Two.made {w0 wr w1 : World} {ov tv : Value} {L L2 T : List Bool} {m : Nat} (h : Two w0 wr ov L tv T m) (h1 : Below wr.heap.size wr w1) (hb : Blk w1 wr.heap.size 4 (bv L2).toArray) (hm : L2.length ≤ maxLen) : Two w0 w1 (.slice (some ⟨wr.heap.size, 0, none⟩) L2.length L2.length) L2 tv T m := by
  have hu := h.up h1
  refine ⟨⟨by rw [bv_len, Nat.mul_one], .inr ⟨wr.heap.size, _, _, rfl, h.below.size, hb, Nat.le_refl _, hm, by simp [bv_len], by rw [Nat.mul_one, List.toList_toArray]; exact List.take_of_length_le (by rw [bv_len]; exact Nat.le_refl _)⟩⟩, hu.tk, fun x hx => ?_, hu.below⟩
  simp only [Value.ownBlock, Option.some.injEq] at hx
  intro he
  have := own_lt h.tk he
  omega
/-- A bit of the first row: where it lies, and how it is written. -/
theorem Two.at_ {w0 wr : World} {ov tv : Value} {L T : List Bool} {m : Nat} (h : Two w0 wr ov L tv T m) (h0 : 0 < L.length) : ∃ r cap, ov = .slice (some ⟨r, 0, none⟩) L.length cap ∧ L.length ≤ cap ∧ cap ≤ 9223372036854775807 ∧ w0.heap.size ≤ r ∧
    (∀ i, i < L.length → wr.cell? ⟨r, i, none⟩ = some (.bool (L.getD i false)) ∧ wr.frozen? ⟨r, i, none⟩ = false) ∧
    (∀ i b, i < L.length → Two w0 (wr.setCell ⟨r, i, none⟩ (.bool b)) ov (L.set i b) tv T m) := by
  obtain ⟨h1, ⟨rfl, h2⟩ | ⟨r, cap, cur, rfl, hb', hr, hn, hc, hs, ht⟩⟩ := h.out
  · omega
  · have hr' : Blk wr r 4 cur := hr
    unfold maxLen at hc
    refine ⟨r, cap, rfl, hn, by omega, hb', fun i hi => ⟨?_, hr'.frozen i⟩, fun i b hi => ?_⟩
    · rw [hr'.cell]
      have h3 : (bv L)[i]? = some (.bool (L.getD i false)) := by rw [bv_at L i hi, List.getD, List.getElem?_eq_getElem hi]; rfl
      rw [← h3, ← ht, List.getElem?_take_of_lt (by omega)]
      simp
    · have hb2 := hr'.put i (.bool b)
      refine ⟨⟨by rw [bv_len, Nat.mul_one], .inr ⟨r, cap, cur.setIfInBounds i (.bool b), by rw [List.length_set], hb', hb2, by rw [List.length_set]; exact hn, by unfold maxLen; omega, by rw [Array.size_setIfInBounds]; exact hs, ?_⟩⟩, ?_, ?_, h.below.setCell (p := ⟨r, i, none⟩) hb' _⟩
      · rw [List.length_set, Array.toList_setIfInBounds, List.take_set, ht]
        simp [bv, List.map_set]
      · refine own_grown (row := some r) h.tk ⟨rfl, rfl, rfl, by simp [World.setCell], fun k _ hne => Below.heap_setCell wr ⟨r, i, none⟩ _ k (fun he => hne (by rw [he]))⟩ (fun x hx he => ?_)
        injection he with he
        subst he
        exact h.apart r rfl hx
      · intro x hx
        exact h.apart x hx
end Go.Proofs.Ytjhfebhefclenaa
