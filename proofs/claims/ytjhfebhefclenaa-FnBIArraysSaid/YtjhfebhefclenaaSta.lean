/-
  GROUND: an argument that is a list of steps.
-/
import Derived.Test.YtjhfebhefclenaaSt
import Derived.Deep.Slices
import Derived.Deep.Fields
import Derived.ChangeSame
namespace Go.Proofs.Ytjhfebhefclenaa
open Go.RowKit Go.ChangeShapes Go.WideShapes Go.ChangeAt Go.Deep
section
variable {H : Type} {enc : TypeId × Value → H} {P : Program}
theorem bits_cell {q e : TypeId} {W : World} {fuel : Nat} {u : Value} {y : DataW H × List MemPlace} (hq : P.underlying q = some (.slice e)) (he : P.underlying e = some .bool) (hc : P.cellsOf e = 1)
    (h : DataW.trod enc P W 0 (fun _ => true) true fuel q [u] = some y) : ∃ l : List Bool, Rd W W.heap.size u (bv l) := by
  rcases Go.Deep.open_bools hq he hc h with ⟨hcs, _⟩ | ⟨a, len, cap, B, hcs, _, hl, hm, hx, hcell⟩
  · simp only [List.cons.injEq, and_true] at hcs
    rw [hcs]
    exact ⟨[], Rd.nil_ _ _⟩
  · simp only [List.cons.injEq, and_true] at hcs
    rw [hcs]
    have hlen : (bv ((List.range len).map B)).length = len := by simp [bv]
    refine ⟨(List.range len).map B, some a, cap, by rw [hlen], by omega, hm, fun hpos => ?_⟩
    rw [hlen] at hpos
    have h0 := hcell 0 (by omega)
    obtain ⟨b, off, rfl⟩ := spot_none h0
    refine ⟨b, off, rfl, World.block_lt_of_cell? W _ (by rw [addr_add] at h0; exact h0), fun j v hv => ?_⟩
    have hj : j < len := by have := (List.getElem?_eq_some_iff.1 hv).1; rw [hlen] at this; exact this
    have h1 := hcell j (by omega)
    rw [addr_add] at h1
    rw [h1, ← hv]
    simp [bv, hj]
theorem steps_arg {t e eb : TypeId} {f0 f1 f2 f3 : Field} {W : World} {v : Value} {d : DataW H} {ps : List MemPlace} (ht : P.underlying t = some (.slice e)) (he : P.underlying e = some (.struct #[f0, f1, f2, f3])) (hone : oneCellFields P #[f0, f1, f2, f3] = true) (hC : P.cellsOf e = 4)
    (h0 : P.underlying f0.type = some (.int .i64)) (h1 : P.underlying f1.type = some (.int .i64)) (h2 : P.underlying f2.type = some (.int .i64)) (h3 : P.underlying f3.type = some (.slice eb)) (heb : P.underlying eb = some .bool) (ceb : P.cellsOf eb = 1)
    (hv : ∃ a len cap, v = .slice a len cap) (h : DataW.Trod enc P W 0 (fun _ => true) true t v d ps) : ∃ st : List Step, RdS W W.heap.size v st ∧ ∀ s ∈ st, (Lit.int .i64 s.a).wf = true ∧ (Lit.int .i64 s.b).wf = true ∧ (Lit.int .i64 s.op).wf = true := by
  obtain ⟨a0, len0, cap0, rfl⟩ := hv
  obtain ⟨fuel, hf⟩ := h
  rcases open_slice ht hf with ⟨hcs, _⟩ | ⟨a, len, cap, m, n, D, Pl, hcs, hb, hl, hm, hmm, hx, hi⟩
  · simp only [Value.cells, List.cons.injEq, and_true] at hcs
    rw [hcs]
    exact ⟨[], ⟨none, 0, rfl, Nat.le_refl _, by decide, fun h => absurd h (by simp)⟩, fun s hs => by cases hs⟩
  · simp only [Value.cells, List.cons.injEq, and_true] at hcs
    rw [hcs]
    simp only [if_true] at hmm
    have hall : ∀ i, i < len → ∃ su : Step × Value, (W.cell? (a.add (i * 4)) = some (.int .i64 su.1.op) ∧ W.cell? ((a.add (i * 4)).add 1) = some (.int .i64 su.1.a) ∧ W.cell? ((a.add (i * 4)).add 2) = some (.int .i64 su.1.b) ∧ W.cell? ((a.add (i * 4)).add 3) = some su.2 ∧ Rd W W.heap.size su.2 (bv su.1.bits)) ∧
        ((Lit.int .i64 su.1.a).wf = true ∧ (Lit.int .i64 su.1.b).wf = true ∧ (Lit.int .i64 su.1.op).wf = true) := fun i hil => by
      obtain ⟨cs', hc, ht'⟩ := hi i (by omega)
      rw [hC] at hc
      obtain ⟨ys, n', hn', hy, hlen, hyl, hg⟩ := DataW.trod_struct he ht'
      obtain ⟨_, hcl, hat⟩ := World.cells?_some hc
      match cs', hcl with
      | [k0, k1, k2, k3], _ =>
        obtain ⟨o0, z0⟩ := hone_of hone 0 f0 rfl
        obtain ⟨o1, z1⟩ := hone_of hone 1 f1 rfl
        obtain ⟨o2, z2⟩ := hone_of hone 2 f2 rfl
        obtain ⟨o3, z3⟩ := hone_of hone 3 f3 rfl
        match ys, hyl with
        | [y0, y1, y2, y3], _ =>
          have g0 : DataW.trod enc P W 0 (fun _ => true) true n' f0.type [k0] = some y0 := by simpa [o0, z0] using hg 0 f0 rfl
          have g1 : DataW.trod enc P W 0 (fun _ => true) true n' f1.type [k1] = some y1 := by simpa [o1, z1] using hg 1 f1 rfl
          have g2 : DataW.trod enc P W 0 (fun _ => true) true n' f2.type [k2] = some y2 := by simpa [o2, z2] using hg 2 f2 rfl
          have g3 : DataW.trod enc P W 0 (fun _ => true) true n' f3.type [k3] = some y3 := by simpa [o3, z3] using hg 3 f3 rfl
          obtain ⟨x0, e0, -, w0⟩ := DataW.trod_int h0 g0
          obtain ⟨x1, e1, -, w1⟩ := DataW.trod_int h1 g1
          obtain ⟨x2, e2, -, w2⟩ := DataW.trod_int h2 g2
          obtain ⟨bl, hbl⟩ := bits_cell h3 heb ceb g3
          simp only [List.cons.injEq, and_true] at e0 e1 e2
          subst e0 e1 e2
          have t0 := hat 0 (by omega)
          have t1 := hat 1 (by omega)
          have t2 := hat 2 (by omega)
          have t3 := hat 3 (by omega)
          refine ⟨(⟨x0, x1, x2, bl⟩, k3), ⟨?_, t1, t2, t3, hbl⟩, w1, w2, w0⟩
          have ez : (a.add (i * 4)).add 0 = a.add (i * 4) := by unfold Addr.add; split <;> simp_all
          rwa [ez] at t0
    haveI : Inhabited (Step × Value) := ⟨(⟨0, 0, 0, []⟩, undef)⟩
    obtain ⟨F, hF⟩ := choose_lt (α := Step × Value) hall
    have hsl : ((List.range len).map fun i => (F i).1).length = len := by simp
    refine ⟨(List.range len).map fun i => (F i).1, ⟨some a, cap, by rw [hsl], by rw [hsl]; exact hl, hm, fun hpos => ?_⟩, fun s hs => ?_⟩
    · rw [hsl] at hpos
      have c0 := (hF 0 hpos).1.1
      rw [Nat.zero_mul] at c0
      obtain ⟨b, off, rfl⟩ := spot_none c0
      refine ⟨b, off, rfl, World.block_lt_of_cell? W _ (by rw [addr_add] at c0; exact c0), fun i s hs => ?_⟩
      have hil : i < len := by have := (List.getElem?_eq_some_iff.1 hs).1; rwa [hsl] at this
      have hse : s = (F i).1 := by
        rw [List.getElem?_map, List.getElem?_range hil] at hs
        injection hs with hs; exact hs.symm
      obtain ⟨⟨d0, d1, d2, d3, d4⟩, -⟩ := hF i hil
      rw [addr_add] at d0 d1 d2 d3
      rw [addr_add] at d1 d2 d3
      subst hse
      exact ⟨(F i).2, d0, d1, d2, d3, d4⟩
    · simp only [List.mem_map, List.mem_range] at hs
      obtain ⟨i, hil, rfl⟩ := hs
      exact (hF i hil).2
end
end Go.Proofs.Ytjhfebhefclenaa
