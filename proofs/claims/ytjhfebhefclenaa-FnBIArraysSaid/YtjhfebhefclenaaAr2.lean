/-
  WALKS: gozxing.BitArray with room for more bits: its frame; Flip, Clear, GetSize.
-/
import Derived.Test.YtjhfebhefclenaaAr1
namespace Go.Proofs.Ytjhfebhefclenaa
open Go.RowKit

/-- As it was, but for two blocks. -/
structure Off (w w' : World) (p q : Nat) : Prop where
  same : ∀ b, b < w.heap.size → b ≠ p → b ≠ q → w'.heap[b]? = w.heap[b]?
  size : w.heap.size ≤ w'.heap.size
  below : ∀ B w0, Below B w0 w → B ≤ p → B ≤ q → B ≤ w.heap.size → Below B w0 w'
theorem Off.refl (w : World) (p q : Nat) : Off w w p q := ⟨fun _ _ _ _ => rfl, Nat.le_refl _, fun _ _ h _ _ _ => h⟩
theorem Off.trans {a b c : World} {p q : Nat} (h : Off a b p q) (k : Off b c p q) : Off a c p q :=
  ⟨fun x hx h1 h2 => (k.same x (Nat.lt_of_lt_of_le hx h.size) h1 h2).trans (h.same x hx h1 h2), Nat.le_trans h.size k.size,
    fun B w0 hB h1 h2 h3 => k.below B w0 (h.below B w0 hB h1 h2 h3) h1 h2 (Nat.le_trans h3 h.size)⟩
theorem Off.alloc (w : World) (o : Obj) (p q : Nat) : Off w (w.alloc o) p q :=
  ⟨fun b hb _ _ => Below.heap_alloc w o b hb, by simp, fun B w0 h _ _ h3 => h.alloc h3 o⟩
theorem Off.drew (w : World) (p q : Nat) : Off w w.drew p q := ⟨fun _ _ _ _ => rfl, Nat.le_refl _, fun _ _ h _ _ _ => h.drew⟩
theorem Off.put1 (w : World) (p q i : Nat) (u : Value) : Off w (w.setCell ⟨p, i, none⟩ u) p q :=
  ⟨fun b _ h1 _ => Below.heap_setCell w ⟨p, i, none⟩ u b h1, by simp [World.setCell], fun B w0 h h1 _ _ => h.setCell (p := ⟨p, i, none⟩) h1 u⟩
theorem Off.put2 (w : World) (p q i : Nat) (u : Value) : Off w (w.setCell ⟨q, i, none⟩ u) p q :=
  ⟨fun b _ _ h2 => Below.heap_setCell w ⟨q, i, none⟩ u b h2, by simp [World.setCell], fun B w0 h _ h2 _ => h.setCell (p := ⟨q, i, none⟩) h2 u⟩
theorem Off.of_below {w w' : World} (h : Below w.heap.size w w') (p q : Nat) : Off w w' p q :=
  ⟨fun b hb _ _ => h.block b hb, h.size, fun _ _ h0 _ _ h3 => h0.trans (h.mono h3)⟩
/-- Then a block that is newer has taken q's place. -/
theorem Off.then_ {a b c : World} {p q q' : Nat} (h : Off a b p q) (k : Off b c p q') (hq : q' = q ∨ a.heap.size ≤ q') : Off a c p q := by
  refine ⟨fun x hx h1 h2 => (k.same x (Nat.lt_of_lt_of_le hx h.size) h1 (by rcases hq with rfl | hq; exact h2; omega)).trans (h.same x hx h1 h2), Nat.le_trans h.size k.size, fun B w0 hB h1 h2 h3 => ?_⟩
  refine k.below B w0 (h.below B w0 hB h1 h2 h3) h1 ?_ (Nat.le_trans h3 h.size)
  rcases hq with rfl | hq
  · exact h2
  · omega
theorem Blk.off {w w' : World} {p q g : Nat} {t : TypeId} {cs : Array Value} (h : Blk w g t cs) (k : Off w w' p q) (h1 : g ≠ p) (h2 : g ≠ q) : Blk w' g t cs := (k.same g h.lt h1 h2).trans h

/-- Pointer p is an array with the bits l, and room for n; its words lie in block g. -/
structure ArrG (w : World) (p g : Nat) (l : List Bool) (n : Nat) : Prop where
  head : Blk w p 53 #[.slice (some ⟨g, 0, none⟩) ((n + 31) / 32) ((n + 31) / 32), .int .i64 l.length]
  rows : Blk w g 47 (wv (wordsN l n)).toArray
  fits : l.length ≤ n
  apart : p ≠ g
theorem ArrG.up {w w' : World} {p g n : Nat} {l : List Bool} (h : ArrG w p g l n) (hb : Below w.heap.size w w') : ArrG w' p g l n := ⟨h.head.up hb, h.rows.up hb, h.fits, h.apart⟩
theorem ArrG.off {w w' : World} {p g n P Q : Nat} {l : List Bool} (h : ArrG w p g l n) (k : Off w w' P Q) (h1 : p ≠ P) (h2 : p ≠ Q) (h3 : g ≠ P) (h4 : g ≠ Q) : ArrG w' p g l n :=
  ⟨h.head.off k h1 h2, h.rows.off k h3 h4, h.fits, h.apart⟩
theorem ArrG.bit {w : World} {p g : Nat} {l : List Bool} (h : ArrG w p g l l.length) : BitAt w p g (wordsOf l) l.length := by
  have h2 := h.rows
  rw [wordsN_self] at h2
  exact ⟨by rw [wordsOf_len]; exact h.head, h2, wordsOf_lt l, wordsOf_len l, h.apart⟩
theorem BitAt.arr {w : World} {p g : Nat} {l : List Bool} (h : BitAt w p g (wordsOf l) l.length) : ArrG w p g l l.length := by
  have h1 := h.head
  rw [wordsOf_len] at h1
  exact ⟨h1, by rw [wordsN_self]; exact h.rows, Nat.le_refl _, h.apart⟩
theorem u32_xor (a b : Nat) (ha : a < 4294967296) (hb : b < 4294967296) : bits .xor .u32 (a : Int) (b : Int) = ((a ^^^ b : Nat) : Int) := by
  have hx : a ^^^ b < 2 ^ 32 := Nat.xor_lt_two_pow (by omega) (by omega)
  show IntKind.u32.wrap ((BitVec.ofInt 32 (a : Int) ^^^ BitVec.ofInt 32 (b : Int)).toNat : Int) = _
  rw [BitVec.toNat_xor, u32_of a ha, u32_of b hb, IntKind.wrap_u32]
  omega
theorem setA_any (p g i : Nat) (l : List Bool) (w : World) (h : ArrG w p g l l.length) (hi : i < l.length) (hs : l.length ≤ 16384) :
    Calls Try.prog 13 #[.pointer (some ⟨p, 0, none⟩), .int .i64 i] w fun e w' => e = .returned (.tuple #[]) ∧ ArrG w' p g (l.set i true) (l.set i true).length ∧ Off w w' p g := by
  refine (set_any p g (wordsOf l) l.length i w h.bit hi (by omega)).mono ?_
  rintro e w' ⟨rfl, hB, rfl⟩
  refine ⟨rfl, BitAt.arr ?_, Off.put2 _ _ _ _ _⟩
  rw [← words_set l i hi, List.length_set]
  exact hB
theorem getA_any (p g i n : Nat) (l : List Bool) (w : World) (h : ArrG w p g l n) (hi : i < l.length) (hs : n ≤ 16384) :
    Calls Try.prog 27 #[.pointer (some ⟨p, 0, none⟩), .int .i64 i] w fun e w' => e = .returned (.bool (l.getD i false)) ∧ w' = w := by
  have hf := h.fits
  have hl := wordsN_len l n hf
  have hlt : i / 32 < (wordsN l n).length := by omega
  have c0 : w.cell? ⟨p, 0, none⟩ = some (.slice (some ⟨g, 0, none⟩) ((n + 31) / 32) ((n + 31) / 32)) := by rw [h.head.cell]; rfl
  have c1 : w.cell? ⟨g, i / 32, none⟩ = some (.int .u32 (((wordsN l n)[i / 32] : Nat) : Int)) := by rw [h.rows.cell, wv_at _ _ hlt]
  have hx := wordsN_lt l n _ (List.getElem_mem hlt)
  have hg : l.getD i false = ((wordsN l n)[i / 32]).testBit (i % 32) := by rw [← bitW_N l n i]; unfold bitW; rw [List.getD, List.getElem?_eq_getElem hlt]; rfl
  have hlt2 : i / 32 < (n + 31) / 32 := by omega
  rw [hg]
  clear hg h hl
  generalize (wordsN l n)[i / 32] = x at *
  have e1 : bits .and .u32 (x : Int) ((2 : Int) ^ (i % 32) % 4294967296) = ((x &&& 2 ^ (i % 32) : Nat) : Int) := by
    rw [pow32 _ (Nat.mod_lt _ (by decide))]
    exact u32_and _ _ hx (Nat.pow_lt_pow_right (n := 32) (by decide) (Nat.mod_lt _ (by decide)))
  have e2 := bit_and x (i % 32)
  generalize (x &&& 2 ^ (i % 32)) = y at *
  have hN : (n + 31) / 32 ≤ 1000 := by omega
  generalize (n + 31) / 32 = N at *
  clear hlt
  go_enter Try.func27, Try.ntmps27
  go_wp2
  go_ret
  exact ⟨rfl, rfl⟩
theorem flipA_any (p g i : Nat) (l : List Bool) (w : World) (h : ArrG w p g l l.length) (hi : i < l.length) (hs : l.length ≤ 16384) :
    Calls Try.prog 14 #[.pointer (some ⟨p, 0, none⟩), .int .i64 i] w fun e w' => e = .returned (.tuple #[]) ∧ ArrG w' p g (l.set i (!l.getD i false)) (l.set i (!l.getD i false)).length ∧ Off w w' p g := by
  have hb := h.bit
  have hl := wordsOf_len l
  have hlt : i / 32 < (wordsOf l).length := by omega
  have c0 : w.cell? ⟨p, 0, none⟩ = some (.slice (some ⟨g, 0, none⟩) (wordsOf l).length (wordsOf l).length) := by rw [hb.head.cell]; rfl
  have c1 : w.cell? ⟨g, i / 32, none⟩ = some (.int .u32 (((wordsOf l)[i / 32] : Nat) : Int)) := by rw [hb.rows.cell, wv_at _ _ hlt]
  have f1 := hb.rows.frozen (i / 32)
  have hx := wordsOf_lt l _ (List.getElem_mem hlt)
  have hg : (wordsOf l).getD (i / 32) 0 = (wordsOf l)[i / 32] := by rw [List.getD, List.getElem?_eq_getElem hlt]; rfl
  have hN : ArrG (w.setCell ⟨g, i / 32, none⟩ (.int .u32 (((wordsOf l).getD (i / 32) 0 ^^^ 2 ^ (i % 32) : Nat) : Int))) p g (l.set i (!l.getD i false)) (l.set i (!l.getD i false)).length := by
    refine BitAt.arr ⟨?_, ?_, wordsOf_lt _, wordsOf_len _, h.apart⟩
    · rw [wordsOf_len, List.length_set]; exact h.head.far h.apart _
    · rw [← words_flip l i hi, flipW, ← wv_set]; exact hb.rows.put _ _
  have HN := Lib.hid hN
  have HO := Lib.hid (Off.put2 w p g (i / 32) (.int .u32 (((wordsOf l).getD (i / 32) 0 ^^^ 2 ^ (i % 32) : Nat) : Int)))
  rw [hg] at HN HO
  clear hN hg h hb hl
  generalize (wordsOf l)[i / 32] = x at *
  have e1 : bits .xor .u32 (x : Int) ((2 : Int) ^ (i % 32) % 4294967296) = ((x ^^^ 2 ^ (i % 32) : Nat) : Int) := by
    rw [pow32 _ (Nat.mod_lt _ (by decide))]
    exact u32_xor _ _ hx (Nat.pow_lt_pow_right (n := 32) (by decide) (Nat.mod_lt _ (by decide)))
  generalize (x ^^^ 2 ^ (i % 32)) = y at *
  generalize (wordsOf l).length = N at *
  go_enter Try.func14, Try.ntmps14
  go_wp2
  refine bodyPost_end (results_none rfl _ _ _) rfl ?_
  exact ⟨rfl, HN.out, HO.out⟩
theorem size_any (p : Nat) (v : Value) (w : World) (c0 : w.cell? ⟨p, 1, none⟩ = some v) : Calls Try.prog 29 #[.pointer (some ⟨p, 0, none⟩)] w fun e w' => e = .returned v ∧ w' = w := by
  go_enter Try.func29, Try.ntmps29
  go_wp2
  go_ret
  exact ⟨rfl, rfl⟩
/-- The first k words are 0. -/
def zeroW (ws : List Nat) (k : Nat) : List Nat := List.replicate k 0 ++ ws.drop k
theorem zeroW_len (ws : List Nat) (k : Nat) (h : k ≤ ws.length) : (zeroW ws k).length = ws.length := by simp [zeroW]; omega
theorem zeroW_set (ws : List Nat) (k : Nat) (h : k < ws.length) : (zeroW ws k).set k 0 = zeroW ws (k + 1) := by
  unfold zeroW
  rw [List.set_append_right _ _ (by simp), List.length_replicate, Nat.sub_self, List.drop_eq_getElem_cons h, List.set_cons_zero, List.replicate_succ', List.append_assoc, List.singleton_append]
theorem clearA_any (p g : Nat) (l : List Bool) (w : World) (h : ArrG w p g l l.length) (hs : l.length ≤ 16384) :
    Calls Try.prog 16 #[.pointer (some ⟨p, 0, none⟩)] w fun e w' => e = .returned (.tuple #[]) ∧ ArrG w' p g (List.replicate l.length false) (List.replicate l.length false).length ∧ Off w w' p g := by
  have hb := h.bit
  have hl := wordsOf_len l
  have hN : (wordsOf l).length ≤ 1000 := by omega
  have c0 : w.cell? ⟨p, 0, none⟩ = some (.slice (some ⟨g, 0, none⟩) (wordsOf l).length (wordsOf l).length) := by rw [hb.head.cell]; rfl
  have HH := Lib.hid hb.head
  have HR : Hid (Blk w g 47 (wv (zeroW (wordsOf l) 0)).toArray) := Lib.hid (by unfold zeroW; simpa using hb.rows)
  have HAp := Lib.hid h.apart
  have HL := Lib.hid hl
  clear h hb hl
  generalize wordsOf l = ws at *
  go_enter Try.func16, Try.ntmps16
  go_wp2
  go_loopw [8] (fun iv wr => ∃ i : Nat, i ≤ ws.length ∧ iv = .int .i64 i ∧ Hid (Blk wr g 47 (wv (zeroW ws i)).toArray) ∧ Hid (Off w wr p g) ∧ wr.cell? ⟨p, 0, none⟩ = some (.slice (some ⟨g, 0, none⟩) ws.length ws.length) ∧ Hid (Blk wr p 53 #[.slice (some ⟨g, 0, none⟩) ws.length ws.length, .int .i64 l.length])) (fun iv _ => ws.length - (intOf iv).toNat)
  case atStart => exact ⟨0, Nat.zero_le _, rfl, HR, Lib.hid (Off.refl _ _ _), c0, HH⟩
  case round =>
    clear HR c0 HH
    obtain ⟨i, hi, rfl, HR, HO, c0, HH⟩ := hrel
    by_cases hlt : i < ws.length
    · have hzl := zeroW_len ws i (by omega)
      have c1 : wr.cell? ⟨g, i, none⟩ = some (.int .u32 (((zeroW ws i)[i]'(by omega) : Nat) : Int)) := by rw [HR.out.cell, wv_at]
      have f1 := HR.out.frozen i
      have HR2 : Hid (Blk (wr.setCell ⟨g, i, none⟩ (.int .u32 ((0 : Nat) : Int))) g 47 (wv (zeroW ws (i + 1))).toArray) := Lib.hid (by rw [← zeroW_set ws i hlt, ← wv_set]; exact HR.out.put _ _)
      have HO2 := Lib.hid (HO.out.trans (Off.put2 wr p g i (.int .u32 ((0 : Nat) : Int))))
      have HH2 := Lib.hid (HH.out.far (p := ⟨g, i, none⟩) HAp.out (.int .u32 ((0 : Nat) : Int)))
      have c2 := HH2.out.cell 0
      have c3 : (wr.setCell ⟨g, i, none⟩ (.int .u32 ((0 : Nat) : Int))).cell? ⟨p, 0, none⟩ = some (.slice (some ⟨g, 0, none⟩) ws.length ws.length) := c2
      have C3 := Lib.hid c3
      clear c2 c3 HR HO HH
      generalize (zeroW ws i)[i]'(by omega) = x at *
      clear hzl
      go_wp2
      go_roundw
      case rel => exact ⟨i + 1, by omega, by go_num, HR2, HO2, C3.out, HH2⟩
      case measure => simp [intOf]; omega
    · obtain rfl : i = ws.length := by omega
      go_wp2
      refine bodyPost_end (results_none rfl _ _ _) rfl ?_
      refine ⟨rfl, ⟨?_, ?_, Nat.le_refl _, HAp.out⟩, HO.out⟩
      · rw [List.length_replicate, ← HL.out]; exact HH.out
      · rw [wordsN_self, ← words_zero, ← HL.out]
        have := HR.out
        unfold zeroW at this
        rwa [List.drop_length, List.append_nil] at this
end Go.Proofs.Ytjhfebhefclenaa
