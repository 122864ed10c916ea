/-
  GROUND AND WALKS: rows of bools ([][]bool): what they read as; spec.BIRows, BISameBits, BISameRows.
-/
import Derived.Test.YtbfkjfgjeaofpaaArgs
import Derived.Test.YtbfkjfgjeaofpaaCan
import Derived.Deep.LoopGhost
namespace Go.Proofs.Ytbfkjfgjeaofpaa
open Go.RowKit

/-- The value v reads as rows of bools. -/
def RowsT (w : World) (v : Value) (rows : List (List Bool)) : Prop :=
  ∃ vs : List Value, RdT w 22 v vs ∧ vs.length = rows.length ∧ ∀ i, i < rows.length → RdT w 4 (vs.getD i undef) (bv (rows.getD i []))
theorem RowsT.up {w w' : World} {v : Value} {rows : List (List Bool)} (h : RowsT w v rows) (hb : Below w.heap.size w w') : RowsT w' v rows := by
  obtain ⟨vs, h1, h2, h3⟩ := h
  exact ⟨vs, h1.up hb, h2, fun i hi => (h3 i hi).up hb⟩
/-- Its form, and its row i. -/
theorem RowsT.at_ {w : World} {v : Value} {rows : List (List Bool)} (h : RowsT w v rows) (h0 : 0 < rows.length) :
    ∃ b o cap, v = .slice (some ⟨b, o, none⟩) rows.length cap ∧ rows.length ≤ cap ∧ cap ≤ 9223372036854775807 ∧
      Hid (∀ i, i < rows.length → ∃ u, w.cell? ⟨b, o + i, none⟩ = some u ∧ RdT w 4 u (bv (rows.getD i []))) := by
  obtain ⟨vs, h1, h2, h3⟩ := h
  obtain ⟨A, cap, hv, k1, k2, k3⟩ := h1.rd
  rw [h2] at hv k1 k3
  obtain ⟨b, o, rfl, _, hc⟩ := k3 h0
  unfold maxLen at k2
  refine ⟨b, o, cap, hv, k1, by omega, fun i hi => ⟨vs[i]'(by omega), hc i _ (List.getElem?_eq_getElem (by omega)), ?_⟩⟩
  have := h3 i hi
  rwa [List.getD, List.getElem?_eq_getElem (by omega), Option.getD_some] at this
/-- A row's form, and its bits. -/
theorem row_at {w : World} {v : Value} {l : List Bool} (h : RdT w 4 v (bv l)) (h0 : 0 < l.length) :
    ∃ b o c, v = .slice (some ⟨b, o, none⟩) l.length c ∧ l.length ≤ c ∧ c ≤ 9223372036854775807 ∧ Hid (∀ j, j < l.length → w.cell? ⟨b, o + j, none⟩ = some (.bool (l.getD j false))) := by
  obtain ⟨A, c, hv, k1, k2, k3⟩ := h.rd
  rw [bv_len] at hv k1 k3
  obtain ⟨b, o, rfl, _, hc⟩ := k3 h0
  unfold maxLen at k2
  refine ⟨b, o, c, hv, k1, by omega, fun j hj => ?_⟩
  rw [List.getD, List.getElem?_eq_getElem hj]
  exact hc j _ (bv_at l j hj)

/-- As RdT, and the block is below B. -/
def RdB (w : World) (e : TypeId) (B : Nat) (v : Value) (xs : List Value) : Prop :=
  ∃ A cap, v = .slice A xs.length cap ∧ xs.length ≤ cap ∧ cap ≤ maxLen ∧
    (0 < xs.length → ∃ b off cs fr, A = some ⟨b, off, none⟩ ∧ b < B ∧ w.heap[b]? = some (.cells cs e fr) ∧ ∀ j u, xs[j]? = some u → cs[off + j]? = some u)
section
variable {w w' : World} {e : TypeId} {v : Value} {xs : List Value} {B : Nat}
theorem RdT.rdB (h : RdT w e v xs) : RdB w e w.heap.size v xs := by
  obtain ⟨A, cap, hv, h1, h2, h3⟩ := h
  exact ⟨A, cap, hv, h1, h2, fun hl => by obtain ⟨b, off, cs, fr, hA, hh, hc⟩ := h3 hl; exact ⟨b, off, cs, fr, hA, heap_lt hh, hh, hc⟩⟩
theorem RdB.rdT (h : RdB w e B v xs) : RdT w e v xs := by
  obtain ⟨A, cap, hv, h1, h2, h3⟩ := h
  exact ⟨A, cap, hv, h1, h2, fun hl => by obtain ⟨b, off, cs, fr, hA, _, hh, hc⟩ := h3 hl; exact ⟨b, off, cs, fr, hA, hh, hc⟩⟩
theorem RdB.below (h : RdB w e B v xs) (hb : Below B w w') : RdB w' e B v xs := by
  obtain ⟨A, cap, hv, h1, h2, h3⟩ := h
  exact ⟨A, cap, hv, h1, h2, fun hl => by obtain ⟨b, off, cs, fr, hA, hlt, hh, hc⟩ := h3 hl; exact ⟨b, off, cs, fr, hA, hlt, (hb.block b hlt).trans hh, hc⟩⟩
theorem RdB.far (h : RdB w e B v xs) {p : Addr} {t : TypeId} {cs : Array Value} (hp : Blk w p.block t cs) (ht : t ≠ e) (u : Value) : RdB (w.setCell p u) e B v xs := by
  obtain ⟨A, cap, hv, h1, h2, h3⟩ := h
  refine ⟨A, cap, hv, h1, h2, fun hl => ?_⟩
  obtain ⟨b, off, cs', fr, hA, hlt, hh, hc⟩ := h3 hl
  refine ⟨b, off, cs', fr, hA, hlt, (Below.heap_setCell w p u b (fun he => ?_)).trans hh, hc⟩
  subst he
  unfold Blk at hp
  rw [hh] at hp
  injection hp with hp
  injection hp with _ h6
  exact ht h6.symm
end
set_option maxRecDepth 100000 in
/-- spec.BISameBits, of the same bits. -/
theorem sameBits_yes (a b : Value) (l : List Bool) (w : World) (ha : Rd w w.heap.size a (bv l)) (hb : Rd w w.heap.size b (bv l)) :
    Calls Try.prog 21 #[a, b] w fun e w' => e = .returned (.bool true) ∧ Below w.heap.size w w' := by
  obtain ⟨A, ca, rfl, ha1, ha2, ha3⟩ := ha
  obtain ⟨B, cb, rfl, hb1, hb2, hb3⟩ := hb
  simp only [bv_len] at *
  unfold maxLen at ha2 hb2
  have HA := Lib.hid ha3; clear ha3
  have HB := Lib.hid hb3; clear hb3
  go_enter Try.func21, Try.ntmps21
  go_wp2
  go_loopw [5] (fun iv wr => ∃ i : Nat, i ≤ l.length ∧ iv = .int .i64 i ∧ Hid (Below w.heap.size w wr)) (fun iv _ => l.length - (intOf iv).toNat)
  case atStart => exact ⟨0, Nat.zero_le _, rfl, Lib.hid (brf w)⟩
  case round =>
    obtain ⟨i, hi, rfl, HW⟩ := hrel
    by_cases hlt : i < l.length
    · obtain ⟨ba, oa, rfl, _, hca⟩ := HA.out (by omega)
      obtain ⟨bb, ob, rfl, _, hcb⟩ := HB.out (by omega)
      have c1 := cell_up (hca i _ (bv_at l i hlt)) HW.out
      have c2 := cell_up (hcb i _ (bv_at l i hlt)) HW.out
      clear hca hcb
      generalize l[i] = x at *
      go_wp2
      go_quiet (fail)
      have HW2 := Lib.hid (bdn HW.out nq)
      go_wp2
      go_roundw
      case rel => exact ⟨i + 1, by omega, by go_num, HW2⟩
      case measure => simp [intOf]; omega
    · go_wp2
      go_ret
      exact ⟨rfl, HW.out⟩

set_option maxRecDepth 100000 in
/-- spec.BISameRows, of the same rows. -/
theorem sameRows_yes (a b : Value) (rows : List (List Bool)) (w : World) (ha : RowsT w a rows) (hb : RowsT w b rows) (h0 : 0 < rows.length) :
    Calls Try.prog 16 #[a, b] w fun e w' => e = .returned (.bool true) ∧ Below w.heap.size w w' := by
  obtain ⟨ba, oa, ca, rfl, ha1, ha2, HA⟩ := ha.at_ h0
  obtain ⟨bb, ob, cb, rfl, hb1, hb2, HB⟩ := hb.at_ h0
  clear ha hb
  go_enter Try.func16, Try.ntmps16
  go_wp2
  go_loopw [5] (fun iv wr => ∃ i : Nat, i ≤ rows.length ∧ iv = .int .i64 i ∧ Hid (Below w.heap.size w wr)) (fun iv _ => rows.length - (intOf iv).toNat)
  case atStart => exact ⟨0, Nat.zero_le _, rfl, Lib.hid (brf w)⟩
  case round =>
    obtain ⟨i, hi, rfl, HW⟩ := hrel
    by_cases hlt : i < rows.length
    · obtain ⟨u1, hc1, hu1⟩ := HA.out i hlt
      obtain ⟨u2, hc2, hu2⟩ := HB.out i hlt
      have c1 := cell_up hc1 HW.out
      have c2 := cell_up hc2 HW.out
      have HU := Lib.hid (And.intro (hu1.up HW.out) (hu2.up HW.out)); clear hu1 hu2 hc1 hc2
      go_wp2
      refine Can.wp_region_can (fun w' => w'.cell? ⟨ba, oa + i, none⟩ = some u1 ∧ w'.cell? ⟨bb, ob + i, none⟩ = some u2 ∧ Below wr.heap.size wr w') 999 [0, 1, 2, 3, 4, 5, 6, 7, 8, 9] (by kernel_rfl) (by kernel_rfl) (fun _ _ d _ _ h => by cases d <;> exact h) ⟨c1, c2, bdr (brf _)⟩ (fun hHeld => ?_)
      repeat (refine Can.can_pure (v := ?_) rfl rfl (Or.inl ⟨by rfl, ?_⟩) ?_; rotate_left; (focus ((intro w hSw); (try dsimp only at hSw); go_simp; (try with_reducible rfl))); (try simp only [Act.put, List.getElem_toArray, List.getElem_cons_succ, List.getElem_cons_zero, List.setIfInBounds_toArray, List.set_cons_zero, List.set_cons_succ]))
      refine Can.can_eff rfl rfl (by rfl) (fun K hK => ?_)
      go_simp
      refine (sameBits_yes u1 u2 _ _ (HU.out.1.up hHeld.2.2).rd (HU.out.2.up hHeld.2.2).rd).mono ?_
      rintro e w1 ⟨rfl, hb1'⟩
      refine hK.out _ _ ⟨cell_up hHeld.1 hb1', cell_up hHeld.2.1 hb1', bup hHeld.2.2 hb1'⟩ (fun hHeld1 => ?_)
      clear hK K
      (try simp only [Act.put, List.getElem_toArray, List.getElem_cons_succ, List.getElem_cons_zero, List.setIfInBounds_toArray, List.set_cons_zero, List.set_cons_succ])
      repeat (refine Can.can_pure (v := ?_) rfl rfl (Or.inl ⟨by rfl, ?_⟩) ?_; rotate_left; (focus ((intro w hSw); (try dsimp only at hSw); go_simp; (try with_reducible rfl))); (try simp only [Act.put, List.getElem_toArray, List.getElem_cons_succ, List.getElem_cons_zero, List.setIfInBounds_toArray, List.set_cons_zero, List.set_cons_succ]))
      refine Can.can_done ?_
      have HW2 := Lib.hid (bup HW.out hHeld1.2.2)
      clear hHeld hHeld1 hb1' c1 c2
      go_wp2
      go_roundw
      case rel => exact ⟨i + 1, by omega, by go_num, HW2⟩
      case measure => simp [intOf]; omega
    · go_wp2
      go_ret
      exact ⟨rfl, HW.out⟩
end Go.Proofs.Ytbfkjfgjeaofpaa
