/-
  GROUND: rows that are made one by one in a list of rows, and filled. An argument that is rows of bools.
-/
import Derived.Test.YtibnfgmhnmkfeaaRw
namespace Go.Proofs.Ytibnfgmhnmkfeaa
open Go.RowKit Go.ChangeShapes Go.WideShapes Go.ChangeAt

/-- One row more is made (its cells Z), behind the block of rows; it will read as F vs.length. -/
theorem row_made {w wr : World} {vs : List Value} {H W : Nat} {T1 T2 : TypeId} (hT : T1 ≠ T2) {F : Nat → List Value} {Z : List Value} (HG : Blk wr w.heap.size T1 (padV vs H).toArray) (HR : ∀ i, i < vs.length → RdT wr T2 (vs.getD i undef) (F i)) (HW : Below w.heap.size w wr)
    (hlt : vs.length < H) (hF : (F vs.length).length = W) (hm : W ≤ maxLen) {wm : World} (hwm : wm = (wr.setCell ⟨w.heap.size, vs.length, none⟩ (.slice (some ⟨wr.heap.size, 0, none⟩) W W)).alloc (.cells Z.toArray T2)) :
    Blk wm w.heap.size T1 (padV (vs ++ [.slice (some ⟨wr.heap.size, 0, none⟩) W W]) H).toArray ∧ Blk wm wr.heap.size T2 Z.toArray ∧ Below w.heap.size w wm ∧ wr.heap.size < wm.heap.size ∧ w.heap.size < wr.heap.size ∧
      ∀ wi, Blk wi wr.heap.size T2 (F vs.length).toArray → Below wr.heap.size wm wi →
        Blk wi w.heap.size T1 (padV (vs ++ [.slice (some ⟨wr.heap.size, 0, none⟩) W W]) H).toArray ∧ (∀ i, i < vs.length + 1 → RdT wi T2 ((vs ++ [Value.slice (some ⟨wr.heap.size, 0, none⟩) W W]).getD i undef) (F i)) ∧ Below w.heap.size w wi := by
  have hglt := HG.lt
  have HG1 : Blk wm w.heap.size T1 (padV (vs ++ [.slice (some ⟨wr.heap.size, 0, none⟩) W W]) H).toArray := by
    rw [hwm, ← padV_set _ _ _ hlt]; exact (HG.put _ _).alloc _
  have HB1 : Blk wm wr.heap.size T2 Z.toArray := by rw [hwm]; exact Blk.fresh' (by simp)
  have HR1 : ∀ i, i < vs.length → RdB wm T2 wr.heap.size (vs.getD i undef) (F i) := fun i hi => by
    rw [hwm]
    exact ((HR i hi).rdB.far (p := ⟨w.heap.size, vs.length, none⟩) HG hT _).below ((Below.refl _ _).alloc (by simp) _)
  have HW1 : Below w.heap.size w wm := by
    rw [hwm]; exact bal (HW.setCell (p := ⟨w.heap.size, vs.length, none⟩) (Nat.le_refl _) _) _
  refine ⟨HG1, HB1, HW1, HB1.lt, hglt, fun wi h1 h2 => ⟨HG1.below h2 hglt, fun i hi => ?_, HW1.trans (h2.mono HW.size)⟩⟩
  rcases Nat.lt_or_ge i vs.length with hiv | hiv
  · rw [getD_snoc_lo _ _ _ _ hiv]
    exact ((HR1 i hiv).below h2).rdT
  · obtain rfl : i = vs.length := by omega
    rw [getD_snoc]
    exact RdT.of_blk h1 hF.symm (by rw [hF]; exact Nat.le_refl _) hm
/-- The value v reads as rows of bools, in blocks below B. -/
def RowsB (w : World) (B : Nat) (v : Value) (rows : List (List Bool)) : Prop :=
  ∃ vs : List Value, Rd w B v vs ∧ vs.length = rows.length ∧ ∀ i, i < rows.length → Rd w B (vs.getD i undef) (bv (rows.getD i []))
theorem RowsB.below {w w' : World} {B : Nat} {v : Value} {rows : List (List Bool)} (h : RowsB w B v rows) (hb : Below B w w') : RowsB w' B v rows := by
  obtain ⟨vs, h1, h2, h3⟩ := h
  exact ⟨vs, h1.below hb, h2, fun i hi => (h3 i hi).below hb⟩
theorem RowsB.up {w w' : World} {v : Value} {rows : List (List Bool)} (h : RowsB w w.heap.size v rows) (hb : Below w.heap.size w w') : RowsB w' w'.heap.size v rows := by
  obtain ⟨vs, h1, h2, h3⟩ := h
  exact ⟨vs, h1.up hb, h2, fun i hi => (h3 i hi).up hb⟩
theorem RowsB.form {w : World} {B : Nat} {v : Value} {rows : List (List Bool)} (h : RowsB w B v rows) : ∃ A cap, v = .slice A rows.length cap ∧ rows.length ≤ cap ∧ cap ≤ 9223372036854775807 := by
  obtain ⟨vs, h1, h2, -⟩ := h
  obtain ⟨A, cap, hv, k1, k2, -⟩ := h1
  unfold maxLen at k2
  exact ⟨A, cap, by rw [hv, h2], by omega, by omega⟩
/-- Row i: where it lies, its form, its bits. -/
theorem RowsB.row {w : World} {B : Nat} {A : Option Addr} {n cap : Nat} {rows : List (List Bool)} (h : RowsB w B (.slice A n cap) rows) {i : Nat} (hi : i < rows.length) :
    ∃ b o A' c', A = some ⟨b, o, none⟩ ∧ b < B ∧ w.cell? ⟨b, o + i, none⟩ = some (.slice A' (rows.getD i []).length c') ∧ (rows.getD i []).length ≤ c' ∧ c' ≤ 9223372036854775807 ∧
      (0 < (rows.getD i []).length → ∃ b' o', A' = some ⟨b', o', none⟩ ∧ b' < B ∧ ∀ j, j < (rows.getD i []).length → w.cell? ⟨b', o' + j, none⟩ = some (.bool ((rows.getD i []).getD j false))) := by
  obtain ⟨vs, h1, h2, h3⟩ := h
  obtain ⟨A0, cap0, hv, k1, k2, k3⟩ := h1
  injection hv with e1 e2 e3
  subst e1 e3
  obtain ⟨b, o, rfl, hb, hc⟩ := k3 (by omega)
  have hu := hc i (vs[i]'(by omega)) (List.getElem?_eq_getElem (by omega))
  have hr := h3 i hi
  rw [List.getD, List.getElem?_eq_getElem (by omega), Option.getD_some] at hr
  obtain ⟨A', c', hv', m1, m2, m3⟩ := hr
  rw [bv_len] at hv' m1 m3
  rw [hv'] at hu
  unfold maxLen at m2
  refine ⟨b, o, A', c', rfl, hb, hu, m1, by omega, fun h0 => ?_⟩
  obtain ⟨b', o', rfl, hb', hc'⟩ := m3 h0
  refine ⟨b', o', rfl, hb', fun j hj => ?_⟩
  rw [List.getD, List.getElem?_eq_getElem hj]
  exact hc' j _ (bv_at _ j hj)
section
variable {H : Type} {enc : TypeId × Value → H} {P : Program}
theorem rows_bools {t e q : TypeId} {W : World} {v : Value} {d : DataW H} {ps : List MemPlace} (ht : P.underlying t = some (.slice e)) (he : P.underlying e = some (.slice q)) (hq : P.underlying q = some .bool) (ce : P.cellsOf e = 1) (cq : P.cellsOf q = 1)
    (hv : ∃ a len cap, v = .slice a len cap) (h : DataW.Trod enc P W 0 (fun _ => true) true t v d ps) :
    ∃ rows : List (List Bool), RowsB W W.heap.size v rows := by
  obtain ⟨a0, len0, cap0, rfl⟩ := hv
  obtain ⟨fuel, hf⟩ := h
  have lt_of : ∀ {a : Addr} {u : Value}, W.cell? a = some u → a.block < W.heap.size := fun h => World.block_lt_of_cell? W _ h
  rcases Go.Deep.open_bool_rows ht he hq ce cq hf with ⟨hcs, _⟩ | ⟨a, len, cap, A, L, C, B, hcs, _, hl, hm, hx, hcell⟩
  · simp only [Value.cells, List.cons.injEq, and_true] at hcs
    rw [hcs]
    exact ⟨[], [], Rd.nil_ _ _, rfl, fun i hi => absurd hi (Nat.not_lt_zero _)⟩
  · simp only [Value.cells, List.cons.injEq, and_true] at hcs
    rw [hcs]
    have hll : ((List.range len).map fun r => (List.range (L r)).map fun c => B r c).length = len := by simp
    have hvl : ((List.range len).map fun r => Value.slice (A r) (L r) (C r)).length = len := by simp
    refine ⟨(List.range len).map fun r => (List.range (L r)).map fun c => B r c, (List.range len).map fun r => Value.slice (A r) (L r) (C r), ⟨some a, cap, by rw [hvl], by rw [hvl]; exact hl, hm, fun hpos => ?_⟩, by rw [hll, hvl], fun i hi => ?_⟩
    · rw [hvl] at hpos
      have h0 := (hcell 0 (by omega)).1
      obtain ⟨b, off, rfl⟩ : ∃ b off, a = ⟨b, off, none⟩ := spot_none h0
      refine ⟨b, off, rfl, lt_of (by rw [addr_add] at h0; exact h0), fun j u hu => ?_⟩
      have hj : j < len := by have := (List.getElem?_eq_some_iff.1 hu).1; rwa [hvl] at this
      have h1 := (hcell j (by omega)).1
      rw [addr_add] at h1
      rw [h1, ← hu]
      simp [hj]
    · rw [hll] at hi
      have hr : ((List.range len).map fun r => (List.range (L r)).map fun c => B r c).getD i [] = (List.range (L i)).map fun c => B i c := by simp [List.getD, hi]
      have hv : ((List.range len).map fun r => Value.slice (A r) (L r) (C r)).getD i undef = Value.slice (A i) (L i) (C i) := by simp [List.getD, hi]
      rw [hr, hv]
      obtain ⟨-, h2, h3, h4, h5⟩ := hcell i (by omega)
      have hbl : (bv ((List.range (L i)).map fun c => B i c)).length = L i := by simp [bv]
      refine ⟨A i, C i, by rw [hbl], by rw [hbl]; exact h2, h3, fun hpos => ?_⟩
      rw [hbl] at hpos
      cases hA : A i with
      | none => have := h4 hA; omega
      | some a' =>
        obtain ⟨-, hc'⟩ := h5 a' hA
        have h0 := hc' 0 (by omega)
        obtain ⟨b, off, rfl⟩ : ∃ b off, a' = ⟨b, off, none⟩ := spot_none h0
        refine ⟨b, off, rfl, lt_of (by rw [addr_add] at h0; exact h0), fun j u hu => ?_⟩
        have hj : j < L i := by have := (List.getElem?_eq_some_iff.1 hu).1; rwa [hbl] at this
        have h1 := hc' j (by omega)
        rw [addr_add] at h1
        rw [h1, ← hu]
        simp [bv, hj]
end
end Go.Proofs.Ytibnfgmhnmkfeaa
