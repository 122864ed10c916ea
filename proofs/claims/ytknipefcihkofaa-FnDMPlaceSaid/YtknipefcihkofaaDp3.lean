/-
  WALKS: DefaultPlacement: hasBit, setBit, GetBit, module.
-/
import Derived.Test.YtknipefcihkofaaDp2
import Derived.Test.YtknipefcihkofaaCan
import Derived.Test.YtknipefcihkofaaSx
namespace Go.Proofs.Ytknipefcihkofaa
open Go.RowKit

theorem bl_at (l : List UInt8) (i : Nat) (h : i < l.length) : (bl l)[i]? = some (.int .u8 (l[i].toNat : Int)) := by simp [bl, h]
/-- What a slice of bytes holds. -/
theorem rdt_byte' {w : World} {v : Value} {l : List UInt8} (h : RdT w 5 v (bl l)) (h0 : 0 < l.length) : ∃ b o cap, v = .slice (some ⟨b, o, none⟩) l.length cap ∧ l.length ≤ cap ∧ cap ≤ maxLen ∧ ∀ i (hi : i < l.length), w.cell? ⟨b, o + i, none⟩ = some (.int .u8 (l[i].toNat : Int)) := by
  obtain ⟨A, cap, hv, h1, h2, h3⟩ := h
  rw [bl_len] at *
  obtain ⟨b, o, cs, fr, rfl, hh, hc⟩ := h3 h0
  exact ⟨b, o, cap, hv, h1, h2, fun i hi => by rw [World.cell?, hh]; simpa using hc i _ (bl_at l i hi)⟩
theorem rd_byte' {w : World} {B : Nat} {v : Value} {l : List UInt8} (h : Rd w B v (bl l)) (h0 : 0 < l.length) : ∃ b o cap, v = .slice (some ⟨b, o, none⟩) l.length cap ∧ l.length ≤ cap ∧ cap ≤ maxLen ∧ ∀ i (hi : i < l.length), w.cell? ⟨b, o + i, none⟩ = some (.int .u8 (l[i].toNat : Int)) := by
  obtain ⟨A, cap, hv, h1, h2, h3⟩ := h
  rw [bl_len] at *
  obtain ⟨b, o, rfl, _, hc⟩ := h3 h0
  exact ⟨b, o, cap, hv, h1, h2, fun i hi => hc i _ (bl_at l i hi)⟩
/-- Nothing below block g has changed, and no block is new. -/
def Kept (g : Nat) (w w' : World) : Prop := w'.heap.size = w.heap.size ∧ ∀ B, B ≤ g → Below B w w'
theorem Kept.refl (g : Nat) (w : World) : Kept g w w := ⟨rfl, fun B _ => Below.refl B w⟩
theorem Kept.drew (g : Nat) (w : World) : Kept g w w.drew := ⟨by simp, fun B _ => (Below.refl B w).drew⟩
theorem Kept.trans {g : Nat} {a b c : World} (h : Kept g a b) (k : Kept g b c) : Kept g a c := ⟨k.1.trans h.1, fun B hB => (h.2 B hB).trans (k.2 B hB)⟩
/-- What a module of the program holds: -1, or its word's bit. -/
def cellM (ws : List UInt8) (v : Int) : Int := if v < 0 then -1 else if ((ws.getD (v.toNat / 8) 0).toNat / 2 ^ (7 - v.toNat % 8)) % 2 = 1 then 1 else 0
def modV (ws : List UInt8) (M : Mod) (N : Nat) : List Value := (List.range N).map fun i => Value.int .i8 (cellM ws (M i))
theorem modV_at (ws : List UInt8) (M : Mod) (N i : Nat) (h : i < N) : (modV ws M N).toArray[i]? = some (.int .i8 (cellM ws (M i))) := by simp [modV, h]
theorem modV_set (ws : List UInt8) (M : Mod) (N i v : Nat) : (modV ws M N).toArray.setIfInBounds i (.int .i8 (cellM ws v)) = (modV ws (modSet M i v) N).toArray := by
  apply Array.ext_getElem?
  intro j
  simp only [modV, List.setIfInBounds_toArray, List.getElem?_toArray, List.getElem?_set, List.getElem?_map, List.length_map, List.length_range]
  by_cases hij : i = j
  · subst hij
    by_cases hi : i < N
    · simp [hi, modSet]
    · simp [hi]
  · rw [if_neg hij]
    by_cases hj : j < N
    · simp [hj, modSet, Ne.symm hij]
    · simp [hj]
theorem cellM_neg (ws : List UInt8) (v : Int) : (0 ≤ cellM ws v) ↔ 0 ≤ v := by
  unfold cellM
  split
  · omega
  · split <;> omega
theorem cellM_bd (ws : List UInt8) (v : Int) : -1 ≤ cellM ws v ∧ cellM ws v ≤ 1 := by
  unfold cellM
  split
  · omega
  · split <;> omega
/-- Pointer p is a placement whose words are ws, and whose modules are M. -/
structure PlAt (w : World) (p g rows cols n : Nat) (cv : Value) (ws : List UInt8) (M : Mod) : Prop where
  head : Blk w p 54 #[cv, .int .i64 rows, .int .i64 cols, .slice (some ⟨g, 0, none⟩) ((rows * cols : Nat) : Int).toNat ((rows * cols : Nat) : Int).toNat]
  code : RdT w 5 cv (bl ws)
  len : ws.length = n
  bits : Blk w g 55 (modV ws M (rows * cols)).toArray
theorem PlAt.up {w w' : World} {p g rows cols n : Nat} {cv : Value} {ws : List UInt8} {M : Mod} (h : PlAt w p g rows cols n cv ws M) (hb : Below w.heap.size w w') : PlAt w' p g rows cols n cv ws M :=
  ⟨h.head.up hb, h.code.up hb, h.len, h.bits.up hb⟩
theorem blk_neq {w : World} {p g : Nat} {t t' : TypeId} {cs cs' : Array Value} (h1 : Blk w p t cs) (h2 : Blk w g t' cs') (ht : t ≠ t') : p ≠ g := by
  intro e
  subst e
  unfold Blk at h1 h2
  rw [h1] at h2
  injection h2 with h2
  injection h2 with _ h3
  exact ht h3
theorem PlAt.apart {w : World} {p g rows cols n : Nat} {cv : Value} {ws : List UInt8} {M : Mod} (h : PlAt w p g rows cols n cv ws M) : p ≠ g := by
  intro e
  subst e
  have h1 := h.head
  have h2 := h.bits
  unfold Blk at h1 h2
  rw [h1] at h2
  injection h2 with h2
  injection h2 with _ h3
  exact absurd h3 (by decide)
theorem PlAt.set {w : World} {p g rows cols n : Nat} {cv : Value} {ws : List UInt8} {M : Mod} (h : PlAt w p g rows cols n cv ws M) (i v : Nat) : PlAt (w.setCell ⟨g, i, none⟩ (.int .i8 (cellM ws v))) p g rows cols n cv ws (modSet M i v) :=
  ⟨h.head.far (p := ⟨g, i, none⟩) h.apart _, h.code.far (p := ⟨g, i, none⟩) h.bits (by decide) _, h.len, by rw [← modV_set]; exact h.bits.put _ _⟩

set_option maxRecDepth 100000 in
theorem hasBit_any (p g rows cols n : Nat) (cv : Value) (ws : List UInt8) (M : Mod) (r c : Nat) (w : World) (h : PlAt w p g rows cols n cv ws M) (hr : r < rows) (hc : c < cols) (hR : rows ≤ 200) (hC : cols ≤ 200) :
    Calls Try.prog 31 #[.pointer (some ⟨p, 0, none⟩), .int .i64 (c : Nat), .int .i64 (r : Nat)] w fun e w' => e = .returned (.bool (modHas M (r * cols + c))) ∧ Below w.heap.size w w' ∧ Kept g w w' := by
  have c2 : w.cell? ⟨p, 2, none⟩ = some (.int .i64 cols) := by rw [h.head.cell]; rfl
  have c3 : w.cell? ⟨p, 3, none⟩ = some (.slice (some ⟨g, 0, none⟩) (rows * cols) (rows * cols)) := by rw [h.head.cell]; rfl
  have hlt := mul_lt hr hc
  have hcell : w.cell? ⟨g, r * cols + c, none⟩ = some (.int .i8 (cellM ws (M (r * cols + c)))) := by rw [h.bits.cell]; exact modV_at _ _ _ _ hlt
  have hmax : rows * cols ≤ 200 * 200 := Nat.mul_le_mul hR hC
  have hb : decide (0 ≤ cellM ws (M (r * cols + c))) = modHas M (r * cols + c) := by unfold modHas; rw [decide_eq_decide]; exact cellM_neg _ _
  obtain ⟨q, hq⟩ : ∃ q, q = r * cols := ⟨_, rfl⟩
  have s1 : (r : Int) * (cols : Int) = (q : Int) := by rw [hq]; simp
  rw [← hq] at hlt hcell hb ⊢
  obtain ⟨N, hN⟩ : ∃ N, N = rows * cols := ⟨_, rfl⟩
  rw [← hN] at hlt c3 hmax
  obtain ⟨i, hi⟩ : ∃ i, i = q + c := ⟨_, rfl⟩
  have s2 : (q : Int) + (c : Int) = (i : Int) := by omega
  rw [← hi] at hlt hcell hb ⊢
  have s3 : IntKind.i64.wrap (q : Int) = (q : Int) := by rw [IntKind.wrap_i64]; omega
  have s4 : IntKind.i64.wrap (i : Int) = (i : Int) := by rw [IntKind.wrap_i64]; omega
  generalize cellM ws (M i) = x at *
  have HB := Lib.hid hb
  clear h hq hN hi hb
  go_enter Try.func31, Try.ntmps31
  go_wp2_with fail
  refine Can.wp_region_can (fun w' => w'.cell? ⟨p, 2, none⟩ = some (.int .i64 cols) ∧ w'.cell? ⟨p, 3, none⟩ = some (.slice (some ⟨g, 0, none⟩) N N) ∧ w'.cell? ⟨g, i, none⟩ = some (.int .i8 x)) 999 [0, 1, 2, 3, 4, 5, 6, 7, 8, 9, 10, 11, 12, 13, 14, 15] (by kernel_rfl) (by kernel_rfl) (fun _ _ d _ _ h => by cases d <;> exact h) ⟨c2, c3, hcell⟩ (fun hHeld => ?_)
  repeat (refine Can.can_pure (v := ?_) rfl rfl (Or.inl ⟨by rfl, ?_⟩) ?_; rotate_left; (focus ((intro w hSw); (try dsimp only at hSw); go_simp; (try with_reducible rfl))); (try simp only [Act.put, List.getElem_toArray, List.getElem_cons_succ, List.getElem_cons_zero, List.setIfInBounds_toArray, List.set_cons_zero, List.set_cons_succ]))
  refine Can.can_done ?_
  clear hHeld
  go_wp2
  go_ret
  exact ⟨ret_bool HB.out, bdr (brf w), Kept.drew g w⟩
set_option maxRecDepth 100000 in
theorem setBit_raw (p g rows cols : Nat) (r c : Nat) (x : Int) (b : Bool) (w : World) (c2 : w.cell? ⟨p, 2, none⟩ = some (.int .i64 cols)) (c3 : w.cell? ⟨p, 3, none⟩ = some (.slice (some ⟨g, 0, none⟩) (rows * cols) (rows * cols)))
    (hcell : w.cell? ⟨g, r * cols + c, none⟩ = some (.int .i8 x)) (fcell : w.frozen? ⟨g, r * cols + c, none⟩ = false) (hr : r < rows) (hc : c < cols) (hR : rows ≤ 200) (hC : cols ≤ 200) :
    Calls Try.prog 33 #[.pointer (some ⟨p, 0, none⟩), .int .i64 (c : Nat), .int .i64 (r : Nat), .bool b] w fun e w' => e = .returned (.tuple #[]) ∧ w' = (w.setCell ⟨g, r * cols + c, none⟩ (.int .i8 (if b then 1 else 0))).drew := by
  have hlt := mul_lt hr hc
  have hmax : rows * cols ≤ 200 * 200 := Nat.mul_le_mul hR hC
  obtain ⟨q, hq⟩ : ∃ q, q = r * cols := ⟨_, rfl⟩
  have s1 : (r : Int) * (cols : Int) = (q : Int) := by rw [hq]; simp
  rw [← hq] at hlt hcell fcell ⊢
  obtain ⟨N, hN⟩ : ∃ N, N = rows * cols := ⟨_, rfl⟩
  rw [← hN] at hlt c3 hmax
  obtain ⟨i, hi⟩ : ∃ i, i = q + c := ⟨_, rfl⟩
  have s2 : (q : Int) + (c : Int) = (i : Int) := by omega
  rw [← hi] at hlt hcell fcell ⊢
  have s3 : IntKind.i64.wrap (q : Int) = (q : Int) := by rw [IntKind.wrap_i64]; omega
  have s4 : IntKind.i64.wrap (i : Int) = (i : Int) := by rw [IntKind.wrap_i64]; omega
  clear hq hN hi
  cases b
  · go_enter Try.func33, Try.ntmps33
    go_wp2_with fail
    refine Can.wp_region_can (fun w' => w'.cell? ⟨p, 2, none⟩ = some (.int .i64 cols) ∧ w'.cell? ⟨p, 3, none⟩ = some (.slice (some ⟨g, 0, none⟩) N N) ∧ w'.cell? ⟨g, i, none⟩ = some (.int .i8 x) ∧ w'.frozen? ⟨g, i, none⟩ = false) 14 [0, 1, 2, 3, 4, 5, 6, 7, 8, 9, 10, 11, 12, 13, 14] (by kernel_rfl) (by kernel_rfl) (fun _ _ d _ _ h => by cases d <;> exact h) ⟨c2, c3, hcell, fcell⟩ (fun hHeld => ?_)
    repeat (refine Can.can_pure (v := ?_) rfl rfl (Or.inl ⟨by rfl, ?_⟩) ?_; rotate_left; (focus ((intro w hSw); (try dsimp only at hSw); go_simp; (try with_reducible rfl))); (try simp only [Act.put, List.getElem_toArray, List.getElem_cons_succ, List.getElem_cons_zero, List.setIfInBounds_toArray, List.set_cons_zero, List.set_cons_succ]))
    have f1 := hHeld.2.2.2
    have c4 := hHeld.2.2.1
    refine Can.can_tail rfl rfl (by rfl) (fun K hK => ?_)
    go_simp
    refine hK.out _ _ ?_
    clear hK K
    clear hHeld f1 c4
    go_wp2
    refine bodyPost_end (results_none rfl _ _ _) rfl ?_
    exact ⟨rfl, rfl⟩
  · go_enter Try.func33, Try.ntmps33
    go_wp2_with fail
    refine Can.wp_region_can (fun w' => w'.cell? ⟨p, 2, none⟩ = some (.int .i64 cols) ∧ w'.cell? ⟨p, 3, none⟩ = some (.slice (some ⟨g, 0, none⟩) N N) ∧ w'.cell? ⟨g, i, none⟩ = some (.int .i8 x) ∧ w'.frozen? ⟨g, i, none⟩ = false) 14 [0, 1, 2, 3, 4, 5, 6, 7, 8, 9, 10, 11, 12, 13, 14] (by kernel_rfl) (by kernel_rfl) (fun _ _ d _ _ h => by cases d <;> exact h) ⟨c2, c3, hcell, fcell⟩ (fun hHeld => ?_)
    repeat (refine Can.can_pure (v := ?_) rfl rfl (Or.inl ⟨by rfl, ?_⟩) ?_; rotate_left; (focus ((intro w hSw); (try dsimp only at hSw); go_simp; (try with_reducible rfl))); (try simp only [Act.put, List.getElem_toArray, List.getElem_cons_succ, List.getElem_cons_zero, List.setIfInBounds_toArray, List.set_cons_zero, List.set_cons_succ]))
    have f1 := hHeld.2.2.2
    have c4 := hHeld.2.2.1
    refine Can.can_tail rfl rfl (by rfl) (fun K hK => ?_)
    go_simp
    refine hK.out _ _ ?_
    clear hK K
    clear hHeld f1 c4
    go_wp2
    refine bodyPost_end (results_none rfl _ _ _) rfl ?_
    exact ⟨rfl, rfl⟩
theorem PlAt.cols_ {w : World} {p g rows cols n : Nat} {cv : Value} {ws : List UInt8} {M : Mod} (h : PlAt w p g rows cols n cv ws M) : w.cell? ⟨p, 2, none⟩ = some (.int .i64 cols) := by rw [h.head.cell]; rfl
theorem PlAt.slice_ {w : World} {p g rows cols n : Nat} {cv : Value} {ws : List UInt8} {M : Mod} (h : PlAt w p g rows cols n cv ws M) : w.cell? ⟨p, 3, none⟩ = some (.slice (some ⟨g, 0, none⟩) (rows * cols) (rows * cols)) := by rw [h.head.cell]; rfl
theorem PlAt.cell_ {w : World} {p g rows cols n : Nat} {cv : Value} {ws : List UInt8} {M : Mod} (h : PlAt w p g rows cols n cv ws M) (i : Nat) (hi : i < rows * cols) : w.cell? ⟨g, i, none⟩ = some (.int .i8 (cellM ws (M i))) := by rw [h.bits.cell]; exact modV_at _ _ _ _ hi
theorem setBit_any (p g rows cols n : Nat) (cv : Value) (ws : List UInt8) (M : Mod) (r c v : Nat) (b : Bool) (w : World) (h : PlAt w p g rows cols n cv ws M) (hr : r < rows) (hc : c < cols) (hR : rows ≤ 200) (hC : cols ≤ 200) (hv : cellM ws v = if b then 1 else 0) :
    Calls Try.prog 33 #[.pointer (some ⟨p, 0, none⟩), .int .i64 (c : Nat), .int .i64 (r : Nat), .bool b] w fun e w' => e = .returned (.tuple #[]) ∧ PlAt w' p g rows cols n cv ws (modSet M (r * cols + c) v) ∧ Kept g w w' := by
  refine (setBit_raw p g rows cols r c _ b w h.cols_ h.slice_ (h.cell_ _ (mul_lt hr hc)) (h.bits.frozen _) hr hc hR hC).mono ?_
  rintro e w' ⟨rfl, rfl⟩
  refine ⟨rfl, ?_, by simp, fun B hB => ((Below.refl _ _).setCell (p := ⟨g, r * cols + c, none⟩) hB _).drew⟩
  rw [← hv]
  exact (h.set _ v).up (bdr (brf _))
theorem u8_of (a : Nat) (ha : a < 256) : (BitVec.ofInt 8 (a : Int)).toNat = a := by
  rw [BitVec.ofInt_natCast, BitVec.toNat_ofNat]; exact Nat.mod_eq_of_lt (by omega)
theorem u8_and (a b : Nat) (ha : a < 256) (hb : b < 256) : bits .and .u8 (a : Int) (b : Int) = ((a &&& b : Nat) : Int) := by
  have hx : a &&& b < 2 ^ 8 := Nat.and_lt_two_pow _ (by omega)
  show IntKind.u8.wrap ((BitVec.ofInt 8 (a : Int) &&& BitVec.ofInt 8 (b : Int)).toNat : Int) = _
  rw [BitVec.toNat_and, u8_of a ha, u8_of b hb, IntKind.wrap_u8]
  omega
theorem and_bit (x k : Nat) : (((x &&& 2 ^ k : Nat) : Int) != 0) = decide (x / 2 ^ k % 2 = 1) := by
  have h : (x &&& 2 ^ k = 0) ↔ ¬ (x / 2 ^ k % 2 = 1) := by
    rw [show (x / 2 ^ k % 2 = 1) ↔ x.testBit k = true by rw [Nat.testBit_eq_decide_div_mod_eq]; simp]
    constructor
    · intro h hb
      have := congrArg (fun n => n.testBit k) h
      simp [Nat.testBit_and, hb] at this
    · intro h
      apply Nat.eq_of_testBit_eq
      intro i
      rw [Nat.testBit_and, Nat.testBit_two_pow]
      by_cases hi : k = i
      · subst hi; simp at h; simp [h]
      · simp [hi]
  rw [Bool.eq_iff_iff]
  simp only [bne_iff_ne, ne_eq, decide_eq_true_eq]
  constructor
  · intro h1
    rcases Decidable.em (x / 2 ^ k % 2 = 1) with h2 | h2
    · exact h2
    · exact absurd (by rw [h.2 h2]; rfl) h1
  · intro h1 h2
    exact h.1 (by omega) h1
theorem cellM_word (ws : List UInt8) (pos b : Nat) (hb : b < 8) : cellM ws ((8 * pos + b : Nat) : Int) = if decide ((ws.getD pos 0).toNat / 2 ^ (7 - b) % 2 = 1) then 1 else 0 := by
  unfold cellM
  rw [if_neg (by omega), Int.toNat_natCast, show (8 * pos + b) / 8 = pos by omega, show (8 * pos + b) % 8 = b by omega]
  simp
set_option maxRecDepth 100000 in
set_option maxHeartbeats 2000000 in
theorem module_any (p g rows cols n : Nat) (cv : Value) (ws : List UInt8) (M : Mod) (row col bit : Int) (pos b i : Nat) (w : World) (h : PlAt w p g rows cols n cv ws M) (hp : placeAt rows cols row col = some i) (hpos : pos < n) (hbit : bit = (b : Int) + 1) (hb : b < 8) (hR : rows ≤ 200) (hC : cols ≤ 200)
    (hrow : -8 ≤ row ∧ row ≤ 400) (hcol : -8 ≤ col ∧ col ≤ 400) :
    Calls Try.prog 36 #[.pointer (some ⟨p, 0, none⟩), .int .i64 row, .int .i64 col, .int .i64 (pos : Nat), .int .i64 bit] w fun e w' => e = .returned (.tuple #[]) ∧ PlAt w' p g rows cols n cv ws (modSet M i (8 * pos + b)) ∧ Kept g w w' := by
  obtain ⟨r, c, hr, hc, rfl, er, ec⟩ := placeAt_some hp
  have c0 : w.cell? ⟨p, 0, none⟩ = some cv := by rw [h.head.cell]; rfl
  have c1 : w.cell? ⟨p, 1, none⟩ = some (.int .i64 rows) := by rw [h.head.cell]; rfl
  have c2 : w.cell? ⟨p, 2, none⟩ = some (.int .i64 cols) := by rw [h.head.cell]; rfl
  have hlen := h.len
  obtain ⟨wb, wo, wc, rfl, hw1, hw2, hwc⟩ := rdt_byte' h.code (by omega)
  unfold maxLen at hw2
  have hpl : pos < ws.length := by omega
  have cw := hwc pos hpl
  have hV := cellM_word ws pos b hb
  rw [List.getD, List.getElem?_eq_getElem hpl, Option.getD_some] at hV
  have hx := ws[pos].toNat_lt
  generalize ws[pos].toNat = x at *
  have hpw : 2 ^ (7 - b) < 256 := by
    have : 2 ^ (7 - b) ≤ 2 ^ 7 := Nat.pow_le_pow_right (by decide) (by omega)
    omega
  have e8 : (8 : Int) - bit = ((7 - b : Nat) : Int) := by omega
  have hbit1 : 1 ≤ bit := by omega
  have hbit8 : bit ≤ 8 := by omega
  obtain ⟨k, hk⟩ : ∃ k, k = 7 - b := ⟨_, rfl⟩
  rw [← hk] at e8 hV hpw
  have hk7 : k ≤ 7 := by omega
  have ep : (2 : Int) ^ k % 256 = ((2 ^ k : Nat) : Int) := by
    have e : (2 : Int) ^ k = ((2 ^ k : Nat) : Int) := by simp
    rw [e]
    generalize 2 ^ k = z at hpw ⊢
    omega
  have ea := u8_and x (2 ^ k) hx hpw
  have eb := and_bit x k
  obtain ⟨bb, hbb⟩ : ∃ bb, bb = decide (x / 2 ^ k % 2 = 1) := ⟨_, rfl⟩
  rw [← hbb] at eb hV
  have HV := Lib.hid hV
  obtain ⟨L, hL⟩ : ∃ L, L = ws.length := ⟨_, rfl⟩
  rw [← hL] at hw1 hpl ⊢
  rw [← hL] at c0 h
  have HP := Lib.hid h
  have HL := Lib.hid hL
  clear h hp hwc hV hbb hk hL hlen hbit
  generalize 2 ^ k = pk at *
  have m1 : Int.tmod ((rows : Int) + 4) 8 = (((rows + 4) % 8 : Nat) : Int) := by rw [Int.tmod_eq_emod_of_nonneg (by omega)]; omega
  have m2 : Int.tmod ((cols : Int) + 4) 8 = (((cols + 4) % 8 : Nat) : Int) := by rw [Int.tmod_eq_emod_of_nonneg (by omega)]; omega
  obtain ⟨d1, hd1⟩ : ∃ d : Int, d = 4 - (((rows + 4) % 8 : Nat) : Int) := ⟨_, rfl⟩
  obtain ⟨d2, hd2⟩ : ∃ d : Int, d = 4 - (((cols + 4) % 8 : Nat) : Int) := ⟨_, rfl⟩
  have b1 : -3 ≤ d1 ∧ d1 ≤ 4 := by omega
  have b2 : -3 ≤ d2 ∧ d2 ≤ 4 := by omega
  unfold rowB at er
  unfold colB at ec
  unfold colA rowA at er
  unfold colA at ec
  rw [← hd1] at er ec
  rw [← hd2] at er
  obtain ⟨q1, hq1⟩ : ∃ q, q = (rows + 4) % 8 := ⟨_, rfl⟩
  obtain ⟨q2, hq2⟩ : ∃ q, q = (cols + 4) % 8 := ⟨_, rfl⟩
  rw [← hq1] at m1 hd1
  rw [← hq2] at m2 hd2
  have n1 := hd1.symm
  have n2 := hd2.symm
  have b3 : q1 < 8 := by omega
  have b4 : q2 < 8 := by omega
  clear hd1 hd2 hq1 hq2
  have b11 := b1.1; have b12 := b1.2; have b21 := b2.1; have b22 := b2.2
  have g1 := hrow.1; have g2 := hrow.2; have g3 := hcol.1; have g4 := hcol.2
  clear b1 b2 hrow hcol
  by_cases h1 : row < 0
  · simp only [if_pos h1] at er ec
    obtain ⟨cc, hcc⟩ : ∃ x : Int, x = col + d1 := ⟨_, rfl⟩
    obtain ⟨rr, hrr⟩ : ∃ x : Int, x = row + rows := ⟨_, rfl⟩
    rw [← hcc, ← hrr] at er
    rw [← hcc] at ec
    have y1 := hcc.symm
    have y2 := hrr.symm
    by_cases h2 : cc < 0
    · rw [if_pos h2] at er ec
      have y3 := er.symm
      have y4 := ec.symm
      clear er ec hcc hrr
      go_enter Try.func36, Try.ntmps36
      go_wp2_with fail
      refine (setBit_any p g rows cols n _ ws M r c (8 * pos + b) bb _ HP.out hr hc hR hC HV.out).mono ?_
      rintro e w1 ⟨rfl, h1⟩
      have H1 := Lib.hid h1; clear h1
      go_wp2
      refine bodyPost_end (results_none rfl _ _ _) rfl ?_
      exact ⟨rfl, H1.out⟩
    · rw [if_neg h2] at er ec
      subst er ec
      clear hcc hrr
      go_enter Try.func36, Try.ntmps36
      go_wp2_with fail
      refine (setBit_any p g rows cols n _ ws M r c (8 * pos + b) bb _ HP.out hr hc hR hC HV.out).mono ?_
      rintro e w1 ⟨rfl, h1⟩
      have H1 := Lib.hid h1; clear h1
      go_wp2
      refine bodyPost_end (results_none rfl _ _ _) rfl ?_
      exact ⟨rfl, H1.out⟩
  · simp only [if_neg h1] at er ec
    by_cases h2 : col < 0
    · rw [if_pos h2] at er ec
      have y3 := er.symm
      have y4 := ec.symm
      clear er ec
      go_enter Try.func36, Try.ntmps36
      go_wp2_with fail
      refine (setBit_any p g rows cols n _ ws M r c (8 * pos + b) bb _ HP.out hr hc hR hC HV.out).mono ?_
      rintro e w1 ⟨rfl, h1⟩
      have H1 := Lib.hid h1; clear h1
      go_wp2
      refine bodyPost_end (results_none rfl _ _ _) rfl ?_
      exact ⟨rfl, H1.out⟩
    · rw [if_neg h2] at er ec
      subst er ec
      go_enter Try.func36, Try.ntmps36
      go_wp2_with fail
      refine (setBit_any p g rows cols n _ ws M r c (8 * pos + b) bb _ HP.out hr hc hR hC HV.out).mono ?_
      rintro e w1 ⟨rfl, h1⟩
      have H1 := Lib.hid h1; clear h1
      go_wp2
      refine bodyPost_end (results_none rfl _ _ _) rfl ?_
      exact ⟨rfl, H1.out⟩
end Go.Proofs.Ytknipefcihkofaa
