/-
  PLAIN: counts of grays of which two groups occur alone; the bound between them. WALKS: bits of a BitArray told by a function.
-/
import Derived.Test.YtimfaplnhlnjlaaPn4
import Derived.Test.YtimfaplnhlnjlaaBa2
import Derived.Test.YtimfaplnhlnjlaaRw
namespace Go.Proofs.Ytimfaplnhlnjlaa
open Go.RowKit

theorem getD_set (cs : List Nat) (i v j : Nat) : (cs.set i v).getD j 0 = if i = j ∧ i < cs.length then v else cs.getD j 0 := by
  by_cases hij : i = j
  · subst hij
    rcases Nat.lt_or_ge i cs.length with h | h
    · simp [List.getD, h]
    · simp [List.getD, List.set_eq_of_length_le h, Nat.not_lt.2 h]
  · simp [List.getD, List.getElem?_set_ne hij, hij]
/-- So many were counted, of two groups alone, the one if a, the other one if b. -/
structure Cnt (cs : List Nat) (D L k : Nat) (a b : Prop) : Prop where
  len : cs.length = 32
  le : ∀ i, cs.getD i 0 ≤ k
  zero : ∀ i, i ≠ D → i ≠ L → cs.getD i 0 = 0
  dark : a → 0 < cs.getD D 0
  light : b → 0 < cs.getD L 0
theorem Cnt.start (D L : Nat) {a b : Prop} (ha : ¬ a) (hb : ¬ b) : Cnt (List.replicate 32 0) D L 0 a b := by
  have h : ∀ i, (List.replicate 32 0 : List Nat).getD i 0 = 0 := fun i => by
    rw [List.getD]
    rcases Nat.lt_or_ge i 32 with h | h
    · rw [List.getElem?_replicate_of_lt h]; rfl
    · rw [List.getElem?_eq_none (by simpa using h)]; rfl
  exact ⟨by simp, fun i => by rw [h i]; exact Nat.le_refl _, fun i _ _ => h i, fun h => absurd h ha, fun h => absurd h hb⟩
theorem Cnt.step {cs : List Nat} {D L k : Nat} {a b a' b' : Prop} (h : Cnt cs D L k a b) (i : Nat) (hi : i = D ∨ i = L) (hD : D < 32) (hL : L < 32) (ha : a' → a ∨ i = D) (hb : b' → b ∨ i = L) : Cnt (cs.set i (cs.getD i 0 + 1)) D L (k + 1) a' b' := by
  have hlen := h.len
  refine ⟨by rw [List.length_set]; exact hlen, fun j => ?_, fun j h1 h2 => ?_, fun hh => ?_, fun hh => ?_⟩
  · rw [getD_set]
    have h1 := h.le i
    have h2 := h.le j
    split <;> omega
  · rw [getD_set, if_neg (by rintro ⟨rfl, -⟩; rcases hi with hi | hi <;> contradiction)]
    exact h.zero j h1 h2
  · rw [getD_set]
    by_cases hd : i = D
    · rw [if_pos ⟨hd, by omega⟩]; omega
    · rw [if_neg (fun hx => hd hx.1)]
      rcases ha hh with hx | hx
      · exact h.dark hx
      · exact absurd hx hd
  · rw [getD_set]
    by_cases hd : i = L
    · rw [if_pos ⟨hd, by omega⟩]; omega
    · rw [if_neg (fun hx => hd hx.1)]
      rcases hb hh with hx | hx
      · exact h.light hx
      · exact absurd hx hd
theorem Cnt.weak {cs : List Nat} {D L k : Nat} {a b a' b' : Prop} (h : Cnt cs D L k a b) (ha : a' → a) (hb : b' → b) : Cnt cs D L k a' b' := ⟨h.len, h.le, h.zero, fun x => h.dark (ha x), fun x => h.light (hb x)⟩
/-- (*GlobalHistogramBinarizer).estimateBlackPoint, of two groups. -/
theorem estimate_two (p v : Value) (cs : List Nat) (D L k : Nat) (w : World) (hv : Rd w w.heap.size v (nv cs)) (h : Cnt cs D L k True True) (hk : k < 65536) (hDL : D + 3 ≤ L) (hL : L < 32) :
    Calls Try.prog 29 #[p, v] w fun e w' => Below w.heap.size w w' ∧ ∃ b : Nat, D < b ∧ b < L ∧ e = .returned (.tuple #[.int .i64 ((8 * b : Nat) : Int), .nilIface]) := by
  refine (estimate_any p v cs w hv h.len (fun i => Nat.lt_of_le_of_lt (h.le i) hk)).mono ?_
  rintro e w' ⟨hb, f, s, hf, hs, hmax, hor, hres⟩
  refine ⟨hb, ?_⟩
  have hD := h.dark trivial
  have hL2 := h.light trivial
  have hcf : 0 < cs.getD f 0 := Nat.lt_of_lt_of_le hD (hmax D (by omega))
  have two : ∀ x, 0 < cs.getD x 0 → x = D ∨ x = L := fun x hx => by
    by_cases h1 : x = D
    · exact .inl h1
    · by_cases h2 : x = L
      · exact .inr h2
      · have := h.zero x h1 h2; omega
  have hf2 := two f hcf
  have hs2 : (s = D ∨ s = L) ∧ s ≠ f := by
    rcases hor with hz | ⟨h1, h2⟩
    · exfalso
      rcases hf2 with rfl | rfl
      · have := hz L (by omega) (by omega); omega
      · have := hz D (by omega) (by omega); omega
    · exact ⟨two s h1, h2⟩
  rcases hres with ⟨h1, -⟩ | ⟨b, h1, h2, h3⟩
  · omega
  · exact ⟨b, by omega, by omega, h3⟩

/-- A BitArray whose bits are f. -/
def BitsAt (w : World) (p g size : Nat) (f : Nat → Bool) : Prop := ∃ ws, BitAt w p g ws size ∧ ∀ i, i < size → (ws.getD (i / 32) 0).testBit (i % 32) = f i
theorem BitsAt.up {w w' : World} {p g size : Nat} {f : Nat → Bool} (h : BitsAt w p g size f) (hb : Below w.heap.size w w') : BitsAt w' p g size f := by
  obtain ⟨ws, h1, h2⟩ := h; exact ⟨ws, h1.up hb, h2⟩
theorem BitsAt.lt {w : World} {p g size : Nat} {f : Nat → Bool} (h : BitsAt w p g size f) : p < w.heap.size ∧ g < w.heap.size := by
  obtain ⟨ws, h1, -⟩ := h; exact ⟨h1.head.lt, h1.rows.lt⟩
theorem BitsAt.off {w w' : World} {p g size a b : Nat} {f : Nat → Bool} (h : BitsAt w p g size f) (k : Off w w' a b) (h1 : p ≠ a) (h2 : p ≠ b) (h3 : g ≠ a) (h4 : g ≠ b) : BitsAt w' p g size f := by
  obtain ⟨ws, h5, h6⟩ := h
  exact ⟨ws, ⟨h5.head.off k h1 h2, h5.rows.off k h3 h4, h5.lt, h5.len, h5.apart⟩, h6⟩
theorem BitsAt.congr {w : World} {p g size : Nat} {f f' : Nat → Bool} (h : BitsAt w p g size f) (hf : ∀ i, i < size → f i = f' i) : BitsAt w p g size f' := by
  obtain ⟨ws, h1, h2⟩ := h; exact ⟨ws, h1, fun i hi => (h2 i hi).trans (hf i hi)⟩
theorem newBits_any (size : Nat) (w : World) (hs : size ≤ 16384) :
    Calls Try.prog 70 #[.int .i64 size] w fun e w' => ∃ p g, e = .returned (.pointer (some ⟨p, 0, none⟩)) ∧ BitsAt w' p g size (fun _ => false) ∧ w.heap.size ≤ p ∧ w.heap.size ≤ g ∧ Below w.heap.size w w' := by
  refine (newArray_any size w hs).mono ?_
  rintro e w' ⟨p, g, he, h, h1, h2, h3⟩
  refine ⟨p, g, he, ⟨_, h, fun i hi => ?_⟩, h1, h2, h3⟩
  rw [List.getD, List.getElem?_replicate_of_lt (by omega)]
  simp
theorem bitsGet_any (p g size i : Nat) (f : Nat → Bool) (w : World) (h : BitsAt w p g size f) (hi : i < size) (hs : size ≤ 16384) :
    Calls Try.prog 33 #[.pointer (some ⟨p, 0, none⟩), .int .i64 i] w fun e w' => e = .returned (.bool (f i)) ∧ w' = w := by
  obtain ⟨ws, h1, h2⟩ := h
  rw [← h2 i hi]
  exact get_any p g ws size i w h1 hi hs
theorem bitsSet_any (p g size i : Nat) (f : Nat → Bool) (w : World) (h : BitsAt w p g size f) (hi : i < size) (hs : size ≤ 16384) :
    Calls Try.prog 71 #[.pointer (some ⟨p, 0, none⟩), .int .i64 i] w fun e w' => ∃ k u, e = .returned (.tuple #[]) ∧ w' = w.setCell ⟨g, k, none⟩ u ∧ BitsAt w' p g size (fun j => f j || decide (i = j)) := by
  obtain ⟨ws, h1, h2⟩ := h
  refine (set_any p g ws size i w h1 hi hs).mono ?_
  rintro e w' ⟨he, hb, hw⟩
  refine ⟨_, _, he, hw, ⟨_, hb, fun j hj => ?_⟩⟩
  have hl := h1.len
  rw [setW_bit ws i j (by omega), h2 j hj]
theorem getSize_any (p g size : Nat) (f : Nat → Bool) (w : World) (h : BitsAt w p g size f) : Calls Try.prog 32 #[.pointer (some ⟨p, 0, none⟩)] w fun e w' => e = .returned (.int .i64 size) ∧ w' = w := by
  obtain ⟨ws, h1, -⟩ := h
  have c1 : w.cell? ⟨p, 1, none⟩ = some (.int .i64 size) := by rw [h1.head.cell]; rfl
  clear h1
  go_enter Try.func32, Try.ntmps32
  go_wp2
  go_ret
  exact ⟨rfl, rfl⟩
/-- The bits of f, so many. -/
def bitsL (size : Nat) (f : Nat → Bool) : List Bool := (List.range size).map f
theorem bitsL_len (size : Nat) (f : Nat → Bool) : (bitsL size f).length = size := by simp [bitsL]
theorem bitsL_at (size : Nat) (f : Nat → Bool) (i : Nat) (h : i < size) : (bitsL size f)[i]'(by rw [bitsL_len]; exact h) = f i := by simp [bitsL]
set_option maxRecDepth 100000 in
/-- impl.bools. -/
theorem bools_any (p g size : Nat) (f : Nat → Bool) (w : World) (h : BitsAt w p g size f) (hs : size ≤ 16384) :
    Calls Try.prog 26 #[.pointer (some ⟨p, 0, none⟩)] w fun e w' => ∃ v, e = .returned v ∧ RdT w' 4 v (bv (bitsL size f)) ∧ Below w.heap.size w w' := by
  have hlt := h.lt
  have HX := Lib.hid h; clear h
  have hmk := mk_bools size w (by omega)
  go_enter Try.func26, Try.ntmps26
  go_wp2_with fail
  refine (getSize_any p g size f w HX.out).mono ?_
  rintro e w ⟨rfl, rfl⟩
  go_wp2
  have hb0 : Blk (w.alloc (.cells (bv (List.replicate size false)).toArray 4)) w.heap.size 4 (bv (fillA (bitsL size f) false size 0)).toArray := by rw [fill_zero]; exact Blk.fresh w _ _
  have HB0 := Lib.hid hb0
  have HX0 := Lib.hid (HX.out.up (bal (brf w) (.cells (bv (List.replicate size false)).toArray 4)))
  have HW0 := Lib.hid (bal (brf w) (.cells (bv (List.replicate size false)).toArray 4))
  clear hb0 hmk HX
  go_loopw [10] (fun iv wr => ∃ k : Nat, k ≤ size ∧ iv = .int .i64 k ∧ Hid (BitsAt wr p g size f) ∧ Hid (Blk wr w.heap.size 4 (bv (fillA (bitsL size f) false size k)).toArray) ∧ Hid (Below w.heap.size w wr)) (fun iv _ => size - (intOf iv).toNat)
  case atStart => exact ⟨0, Nat.zero_le _, rfl, HX0, HB0, HW0⟩
  case round =>
    clear HX0 HB0 HW0
    obtain ⟨k, hk, rfl, HX, HB, HW⟩ := hrel
    by_cases hltk : k < size
    · have hl := bitsL_len size f
      have hset := fill_set (bitsL size f) false size k (by omega) (by omega)
      rw [bitsL_at size f k hltk] at hset
      have hput := HB.out.put k (.bool (f k))
      rw [bv_set, hset] at hput
      have HB2 := Lib.hid hput
      have HX2 := Lib.hid (HX.out.off (Off.put1 wr w.heap.size w.heap.size k (.bool (f k))) (by omega) (by omega) (by omega) (by omega))
      have HW2 := Lib.hid (HW.out.setCell (p := ⟨w.heap.size, k, none⟩) (Nat.le_refl _) (.bool (f k)))
      have cO : wr.cell? ⟨w.heap.size, k, none⟩ = some (.bool false) := by
        rw [HB.out.cell, List.getElem?_toArray]
        unfold bv
        rw [List.getElem?_map, fill_at_k (bitsL size f) false size k hltk (by omega)]; rfl
      have fO := HB.out.frozen k
      clear hset hput hl
      go_wp2_with fail
      refine (bitsGet_any p g size k f wr HX.out hltk hs).mono ?_
      rintro e wr ⟨rfl, rfl⟩
      generalize f k = q at *
      go_wp2
      go_roundw
      case rel => exact ⟨k + 1, by omega, by go_num, HX2, HB2, HW2⟩
      case measure => simp [intOf]; omega
    · obtain rfl : k = size := by omega
      have hx := HB.out
      have hz := fill_full (bitsL k f) false
      rw [bitsL_len] at hz
      rw [hz] at hx
      have HX2 := Lib.hid hx
      clear hx hz HB
      go_wp2
      go_ret
      exact ⟨_, rfl, RdT.of_blk (g := w.heap.size) HX2.out (by rw [bv_len, bitsL_len]) (by rw [bv_len, bitsL_len]; exact Nat.le_refl _) (by unfold maxLen; omega), HW.out⟩
end Go.Proofs.Ytimfaplnhlnjlaa
