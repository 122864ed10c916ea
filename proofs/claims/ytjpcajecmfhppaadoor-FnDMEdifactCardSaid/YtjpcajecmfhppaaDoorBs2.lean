/-
  WALKS: common.BitSource: Available, ReadBits.
-/
import Derived.Test.YtjpcajecmfhppaaDoorBs1
import Derived.Test.YtjpcajecmfhppaaDoorCan
import Derived.Test.YtjpcajecmfhppaaDoorErr
namespace Go.Proofs.YtjpcajecmfhppaaDoor
open Go.RowKit

/-- As it was, but for block p, and new blocks. -/
structure Onl (p : Nat) (w w' : World) : Prop where
  same : ∀ b, b < w.heap.size → b ≠ p → w'.heap[b]? = w.heap[b]?
  size : w.heap.size ≤ w'.heap.size
  below : ∀ B w0, Below B w0 w → B ≤ p → B ≤ w.heap.size → Below B w0 w'
theorem Onl.refl (p : Nat) (w : World) : Onl p w w := ⟨fun _ _ _ => rfl, Nat.le_refl _, fun _ _ h _ _ => h⟩
theorem Onl.trans {p : Nat} {a b c : World} (h : Onl p a b) (k : Onl p b c) : Onl p a c :=
  ⟨fun x hx h1 => (k.same x (Nat.lt_of_lt_of_le hx h.size) h1).trans (h.same x hx h1), Nat.le_trans h.size k.size, fun B w0 hB h1 h2 => k.below B w0 (h.below B w0 hB h1 h2) h1 (Nat.le_trans h2 h.size)⟩
theorem Onl.of_below {p : Nat} {w w' : World} (h : Below w.heap.size w w') : Onl p w w' := ⟨fun b hb _ => h.block b hb, h.size, fun _ _ h0 _ h3 => h0.trans (h.mono h3)⟩
theorem Onl.drew {p : Nat} {a b : World} (h : Onl p a b) : Onl p a b.drew := h.trans ⟨fun _ _ _ => rfl, Nat.le_refl _, fun _ _ h _ _ => h.drew⟩
theorem Onl.put {p : Nat} {a b : World} (h : Onl p a b) (i : Nat) (u : Value) : Onl p a (b.setCell ⟨p, i, none⟩ u) :=
  h.trans ⟨fun x _ h1 => Below.heap_setCell b ⟨p, i, none⟩ u x h1, by simp [World.setCell], fun B w0 h h1 _ => h.setCell (p := ⟨p, i, none⟩) h1 u⟩
theorem Blk.onl {p g : Nat} {w w' : World} {t : TypeId} {cs : Array Value} (h : Blk w g t cs) (k : Onl p w w') (hp : g ≠ p) : Blk w' g t cs := (k.same g h.lt hp).trans h
theorem RdT.onl {p : Nat} {w w' : World} {e t : TypeId} {v : Value} {xs : List Value} {cs : Array Value} (h : RdT w e v xs) (k : Onl p w w') (hp : Blk w p t cs) (ht : t ≠ e) : RdT w' e v xs := by
  obtain ⟨A, cap, hv, h1, h2, h3⟩ := h
  refine ⟨A, cap, hv, h1, h2, fun hl => ?_⟩
  obtain ⟨b, off, cs', fr, hA, hh, hc⟩ := h3 hl
  refine ⟨b, off, cs', fr, hA, (k.same b (heap_lt hh) (fun he => ?_)).trans hh, hc⟩
  subst he
  unfold Blk at hp
  rw [hh] at hp
  injection hp with hp
  injection hp with _ h6
  exact ht h6.symm
/-- Bytes as values. -/
def wv8 (l : List Nat) : List Value := l.map fun n : Nat => Value.int .u8 (n : Int)
theorem wv8_len (l : List Nat) : (wv8 l).length = l.length := by simp [wv8]
theorem wv8_at (l : List Nat) (i : Nat) (h : i < l.length) : (wv8 l)[i]? = some (.int .u8 ((l[i] : Nat) : Int)) := by simp [wv8, h]
/-- Pointer p is a source of bits: bytes bs in the slice sv; read up to bit 8 * q + o. -/
structure BsAt (w : World) (p : Nat) (sv : Value) (bs : List Nat) (q o : Nat) : Prop where
  head : Blk w p 86 #[sv, .int .i64 q, .int .i64 o]
  rd : RdT w 5 sv (wv8 bs)
  lt : ∀ x ∈ bs, x < 256
theorem BsAt.up {w w' : World} {p q o : Nat} {sv : Value} {bs : List Nat} (h : BsAt w p sv bs q o) (hb : Below w.heap.size w w') : BsAt w' p sv bs q o := ⟨h.head.up hb, h.rd.up hb, h.lt⟩
theorem BsAt.drew {w : World} {p q o : Nat} {sv : Value} {bs : List Nat} (h : BsAt w p sv bs q o) : BsAt w.drew p sv bs q o := ⟨h.head, h.rd, h.lt⟩
theorem BsAt.put1 {w : World} {p q o : Nat} {sv : Value} {bs : List Nat} (h : BsAt w p sv bs q o) (k : Nat) : BsAt (w.setCell ⟨p, 1, none⟩ (.int .i64 (k : Int))) p sv bs k o :=
  ⟨h.head.put 1 _, h.rd.onl ((Onl.refl p w).put 1 _) h.head (by decide), h.lt⟩
theorem BsAt.put2 {w : World} {p q o : Nat} {sv : Value} {bs : List Nat} (h : BsAt w p sv bs q o) (k : Nat) : BsAt (w.setCell ⟨p, 2, none⟩ (.int .i64 (k : Int))) p sv bs q k :=
  ⟨h.head.put 2 _, h.rd.onl ((Onl.refl p w).put 2 _) h.head (by decide), h.lt⟩
/-- Its cells, and byte q. -/
theorem BsAt.cells {w : World} {p q o : Nat} {sv : Value} {bs : List Nat} (h : BsAt w p sv bs q o) : w.cell? ⟨p, 0, none⟩ = some sv ∧ w.cell? ⟨p, 1, none⟩ = some (.int .i64 q) ∧ w.cell? ⟨p, 2, none⟩ = some (.int .i64 o) ∧ w.frozen? ⟨p, 1, none⟩ = false ∧ w.frozen? ⟨p, 2, none⟩ = false :=
  ⟨by rw [h.head.cell]; rfl, by rw [h.head.cell]; rfl, by rw [h.head.cell]; rfl, h.head.frozen _, h.head.frozen _⟩
theorem BsAt.byte {w : World} {p q o : Nat} {A : Option Addr} {n c : Nat} {bs : List Nat} (h : BsAt w p (.slice A n c) bs q o) {i : Nat} (hi : i < bs.length) : n = bs.length ∧ bs.length ≤ c ∧ c ≤ maxLen ∧ ∃ b off, A = some ⟨b, off, none⟩ ∧ w.cell? ⟨b, off + i, none⟩ = some (.int .u8 ((bs.getD i 0 : Nat) : Int)) ∧ bs.getD i 0 < 256 := by
  obtain ⟨A', cap, hv, h1, h2, h3⟩ := h.rd.rd
  injection hv with e1 e2 e3
  subst e1 e2 e3
  rw [wv8_len] at *
  obtain ⟨b, off, rfl, _, hc⟩ := h3 (by omega)
  have e : bs.getD i 0 = bs[i] := by rw [List.getD, List.getElem?_eq_getElem hi]; rfl
  refine ⟨rfl, h1, h2, b, off, rfl, ?_, ?_⟩
  · rw [e]; exact hc i _ (wv8_at bs i hi)
  · rw [e]; exact h.lt _ (List.getElem_mem hi)
theorem BsAt.form {w : World} {p q o : Nat} {sv : Value} {bs : List Nat} (h : BsAt w p sv bs q o) : ∃ A c, sv = .slice A bs.length c ∧ bs.length ≤ c ∧ c ≤ 9223372036854775807 := by
  obtain ⟨A', cap, hv, h1, h2, h3⟩ := h.rd.rd
  rw [wv8_len] at *
  unfold maxLen at h2
  exact ⟨A', cap, hv, h1, by omega⟩
theorem available_any (p q o : Nat) (sv : Value) (bs : List Nat) (w : World) (h : BsAt w p sv bs q o) (hl : bs.length ≤ 2147483647) (ho : o < 8) (hq : 8 * q + o ≤ 8 * bs.length) :
    Calls Tryd.prog 30 #[.pointer (some ⟨p, 0, none⟩)] w fun e w' => e = .returned (.int .i64 ((8 * bs.length - (8 * q + o) : Nat) : Int)) ∧ BsAt w' p sv bs q o ∧ Onl p w w' := by
  obtain ⟨A, c, rfl, k1, k2⟩ := h.form
  obtain ⟨c0, c1, c2, -, -⟩ := h.cells
  have HB := Lib.hid h
  clear h
  obtain ⟨R, hR⟩ : ∃ R, R = 8 * bs.length - (8 * q + o) := ⟨_, rfl⟩
  have e1 : (bs.length : Int) - (q : Int) = ((bs.length - q : Nat) : Int) := by omega
  have e2 : (8 : Int) * ((bs.length - q : Nat) : Int) = ((8 * (bs.length - q) : Nat) : Int) := by omega
  have e3 : ((8 * (bs.length - q) : Nat) : Int) - (o : Int) = (R : Int) := by omega
  have b1 : 8 * (bs.length - q) ≤ 8 * bs.length := by omega
  rw [← hR]
  have b2 : R ≤ 8 * bs.length := by omega
  clear hR
  generalize 8 * (bs.length - q) = y at *
  generalize bs.length - q = x at *
  have w1 : IntKind.i64.wrap (x : Int) = (x : Int) := by rw [IntKind.wrap_i64]; omega
  have w2 : IntKind.i64.wrap (y : Int) = (y : Int) := by rw [IntKind.wrap_i64]; omega
  have w3 : IntKind.i64.wrap (R : Int) = (R : Int) := by rw [IntKind.wrap_i64]; omega
  go_enter Tryd.func30, Tryd.ntmps30
  go_wp2_with fail
  refine Can.wp_region_can (fun w' => w'.cell? ⟨p, 0, none⟩ = some (.slice A bs.length c) ∧ w'.cell? ⟨p, 1, none⟩ = some (.int .i64 q) ∧ w'.cell? ⟨p, 2, none⟩ = some (.int .i64 o)) 999 [0, 1, 2, 3, 4, 5, 6, 7, 8, 9, 10, 11, 12, 13, 14, 15, 16] (by kernel_rfl) (by kernel_rfl) (fun _ _ d _ _ h => by cases d <;> exact h) ⟨c0, c1, c2⟩ (fun hHeld => ?_)
  repeat (refine Can.can_pure (v := ?_) rfl rfl (Or.inl ⟨by rfl, ?_⟩) ?_; rotate_left; (focus ((intro w hSw); (try dsimp only at hSw); go_simp; (try with_reducible rfl))); (try simp only [Act.put, List.getElem_toArray, List.getElem_cons_succ, List.getElem_cons_zero, List.setIfInBounds_toArray, List.set_cons_zero, List.set_cons_succ]))
  refine Can.can_done ?_
  go_wp2_with fail
  go_ret
  exact ⟨rfl, HB.out.drew, (Onl.refl p _).drew⟩
end Go.Proofs.YtjpcajecmfhppaaDoor
