/-
  PLAIN: what Rotate180 makes of words.
-/
import Derived.Test.YtbfkjfgjeaofpaaRt1
import Derived.Test.YtbfkjfgjeaofpaaRev
import Derived.Test.YtbfkjfgjeaofpaaCan2
namespace Go.Proofs.Ytbfkjfgjeaofpaa
open Go.RowKit

/-- Block g holds H rows of R words: F r q. -/
def WordsV (w : World) (g R H : Nat) (F : Nat → Nat → Nat) : Prop :=
  ∃ cur : List Nat, Blk w g 28 (wv cur).toArray ∧ cur.length = R * H ∧ (∀ x ∈ cur, x < 4294967296) ∧ ∀ r q, r < H → q < R → cur.getD (r * R + q) 0 = F r q
theorem row_lt {R H r q : Nat} (hr : r < H) (hq : q < R) : r * R + q < R * H := by
  have h1 : (r + 1) * R ≤ H * R := Nat.mul_le_mul_right R hr
  rw [Nat.add_mul, Nat.one_mul] at h1
  rw [Nat.mul_comm R H]; omega
theorem row_inj {R r q a b : Nat} (hq : q < R) (hb : b < R) (h : r * R + q = a * R + b) : r = a ∧ q = b := by
  have h1 : (r * R + q) / R = r := by rw [Nat.mul_comm, Nat.mul_add_div (by omega), Nat.div_eq_of_lt hq, Nat.add_zero]
  have h2 : (a * R + b) / R = a := by rw [Nat.mul_comm, Nat.mul_add_div (by omega), Nat.div_eq_of_lt hb, Nat.add_zero]
  have h3 : r = a := by rw [← h1, ← h2, h]
  subst h3
  exact ⟨rfl, by omega⟩
section
variable {w : World} {g R H : Nat} {F F' : Nat → Nat → Nat}
theorem WordsV.congr (h : WordsV w g R H F) (hf : ∀ r q, r < H → q < R → F r q = F' r q) : WordsV w g R H F' := by
  obtain ⟨cur, h1, h2, h3, h4⟩ := h
  exact ⟨cur, h1, h2, h3, fun r q hr hq => by rw [h4 r q hr hq, hf r q hr hq]⟩
theorem WordsV.lt (h : WordsV w g R H F) {r q : Nat} (hr : r < H) (hq : q < R) : F r q < 4294967296 := by
  obtain ⟨cur, h1, h2, h3, h4⟩ := h
  have hp : r * R + q < cur.length := by rw [h2]; exact row_lt hr hq
  rw [← h4 r q hr hq, List.getD, List.getElem?_eq_getElem hp]
  exact h3 _ (List.getElem_mem hp)
theorem WordsV.cell (h : WordsV w g R H F) {r q : Nat} (hr : r < H) (hq : q < R) : w.cell? ⟨g, r * R + q, none⟩ = some (.int .u32 ((F r q : Nat) : Int)) ∧ w.frozen? ⟨g, r * R + q, none⟩ = false := by
  obtain ⟨cur, h1, h2, h3, h4⟩ := h
  have hp : r * R + q < cur.length := by rw [h2]; exact row_lt hr hq
  refine ⟨?_, h1.frozen _⟩
  rw [h1.cell, wv_at _ _ hp, ← h4 r q hr hq, List.getD, List.getElem?_eq_getElem hp]; rfl
theorem WordsV.put (h : WordsV w g R H F) {r q : Nat} (hr : r < H) (hq : q < R) (v : Nat) (hv : v < 4294967296) : WordsV (w.setCell ⟨g, r * R + q, none⟩ (.int .u32 (v : Int))) g R H (fun a b => if a = r ∧ b = q then v else F a b) := by
  obtain ⟨cur, h1, h2, h3, h4⟩ := h
  have hp : r * R + q < cur.length := by rw [h2]; exact row_lt hr hq
  refine ⟨cur.set (r * R + q) v, by rw [← wv_set]; exact h1.put _ _, by rw [List.length_set]; exact h2, fun x hx => ?_, fun a b ha hb => ?_⟩
  · rcases List.mem_or_eq_of_mem_set hx with hx | hx
    · exact h3 x hx
    · rw [hx]; exact hv
  · show _ = if a = r ∧ b = q then v else F a b
    by_cases hab : a = r ∧ b = q
    · obtain ⟨rfl, rfl⟩ := hab
      rw [if_pos ⟨rfl, rfl⟩, List.getD, List.getElem?_set_self hp]; rfl
    · rw [if_neg hab, List.getD, List.getElem?_set_ne (fun he => hab (by obtain ⟨h5, h6⟩ := row_inj hq hb he; exact ⟨h5.symm, h6.symm⟩)), ← h4 a b ha hb, List.getD]
theorem WordsV.drew (h : WordsV w g R H F) : WordsV w.drew g R H F := by
  obtain ⟨cur, h1, h2⟩ := h; exact ⟨cur, h1.drew, h2⟩
theorem WordsV.bits (h : WordsV w g R H F) {W : Nat} {f : Nat → Nat → Bool} (hR : (W + 31) / 32 = R) (hf : ∀ x y, x < W → y < H → (F y (x / 32)).testBit (x % 32) = f x y) : WordsF w g ((W + 31) / 32 * H) ((W + 31) / 32) W H f := by
  subst hR
  obtain ⟨cur, h1, h2, h3, h4⟩ := h
  exact ⟨cur, h1, h3, h2, fun x y hx hy => by rw [bitM, h4 y (x / 32) hy (by omega), hf x y hx hy]⟩
end
theorem MatAt.vals {w : World} {p g W H : Nat} {f : Nat → Nat → Bool} (h : MatAt w p g W H f) : ∃ F, WordsV w g ((W + 31) / 32) H F ∧ ∀ x y, x < W → y < H → (F y (x / 32)).testBit (x % 32) = f x y := by
  obtain ⟨ws, h1, h2⟩ := h
  exact ⟨fun r q => ws.getD (r * ((W + 31) / 32) + q) 0, ⟨ws, h1.rows, h1.len, h1.lt, fun _ _ _ _ => rfl⟩, h2⟩

/-! ### The first part: all words the other way round -/
def swF (H R : Nat) (o : Nat → Nat → Nat) (i j r q : Nat) : Nat :=
  if (r < i ∨ (r = i ∧ q < j)) ∨ (H - 1 - r < i ∨ (H - 1 - r = i ∧ R - 1 - q < j)) then o (H - 1 - r) (R - 1 - q) else o r q
theorem swF_at (H R : Nat) (o : Nat → Nat → Nat) (i j : Nat) (hj : j < R) (hi : i < H - 1 - i ∨ (i = H - 1 - i ∧ j < R - 1 - j)) : swF H R o i j i j = o i j ∧ swF H R o i j (H - 1 - i) (R - 1 - j) = o (H - 1 - i) (R - 1 - j) := by
  unfold swF
  constructor
  · rw [if_neg (by omega)]
  · rw [if_neg (by omega)]
theorem swF_step (H R : Nat) (o : Nat → Nat → Nat) (i j : Nat) (hj : j < R) (hiH : i < H) (hi : i < H - 1 - i ∨ (i = H - 1 - i ∧ j < R - 1 - j)) (r q : Nat) (hr : r < H) (hq : q < R) :
    (if r = H - 1 - i ∧ q = R - 1 - j then o i j else (if r = i ∧ q = j then o (H - 1 - i) (R - 1 - j) else swF H R o i j r q)) = swF H R o i (j + 1) r q := by
  unfold swF
  by_cases h1 : r = H - 1 - i ∧ q = R - 1 - j
  · obtain ⟨rfl, rfl⟩ := h1
    rw [if_pos ⟨rfl, rfl⟩, if_pos (by omega), show H - 1 - (H - 1 - i) = i by omega, show R - 1 - (R - 1 - j) = j by omega]
  · rw [if_neg h1]
    by_cases h2 : r = i ∧ q = j
    · obtain ⟨rfl, rfl⟩ := h2
      rw [if_pos ⟨rfl, rfl⟩, if_pos (by omega)]
    · rw [if_neg h2]
      by_cases h3 : (r < i ∨ (r = i ∧ q < j)) ∨ (H - 1 - r < i ∨ (H - 1 - r = i ∧ R - 1 - q < j))
      · rw [if_pos h3, if_pos (by omega)]
      · rw [if_neg h3, if_neg (by omega)]
theorem swF_row (H R : Nat) (o : Nat → Nat → Nat) (i r q : Nat) (hq : q < R) : swF H R o i R r q = swF H R o (i + 1) 0 r q := by
  unfold swF
  by_cases h3 : (r < i ∨ (r = i ∧ q < R)) ∨ (H - 1 - r < i ∨ (H - 1 - r = i ∧ R - 1 - q < R))
  · rw [if_pos h3, if_pos (by omega)]
  · rw [if_neg h3, if_neg (by omega)]
theorem swF_zero (H R : Nat) (o : Nat → Nat → Nat) (r q : Nat) : swF H R o 0 0 r q = o r q := by unfold swF; rw [if_neg (by omega)]
theorem swF_even (H R : Nat) (o : Nat → Nat → Nat) (r q : Nat) (hr : r < H) (hH : H % 2 = 0) : swF H R o (H / 2) 0 r q = o (H - 1 - r) (R - 1 - q) := by
  unfold swF; rw [if_pos (by omega)]
theorem swF_odd (H R : Nat) (o : Nat → Nat → Nat) (r q : Nat) (hr : r < H) (hq : q < R) (hH : H % 2 = 1) : swF H R o (H / 2) (R / 2) r q = o (H - 1 - r) (R - 1 - q) := by
  unfold swF
  by_cases h3 : (r < H / 2 ∨ (r = H / 2 ∧ q < R / 2)) ∨ (H - 1 - r < H / 2 ∨ (H - 1 - r = H / 2 ∧ R - 1 - q < R / 2))
  · rw [if_pos h3]
  · rw [if_neg h3]
    have h1 : H - 1 - r = r := by omega
    have h2 : R - 1 - q = q := by omega
    rw [h1, h2]

/-! ### The second part: each row's bits the other way round -/
def p1 (s v : Nat) : Nat := rev32 v / 2 ^ (32 - s)
def outF (s R : Nat) (rv : Nat → Nat → Nat) (r q : Nat) : Nat := if q + 1 < R then p1 s (rv r q) ||| rev32 (rv r (q + 1)) * 2 ^ s % 4294967296 else p1 s (rv r q)
def roF (s R : Nat) (rv : Nat → Nat → Nat) (i j r q : Nat) : Nat :=
  if r < i then outF s R rv r q else if r = i then (if q + 1 < j then outF s R rv r q else if q + 1 = j then p1 s (rv r q) else rv r q) else rv r q
theorem roF_first (s R : Nat) (rv : Nat → Nat → Nat) (i r q : Nat) : (if r = i ∧ q = 0 then p1 s (rv i 0) else roF s R rv i 0 r q) = roF s R rv i 1 r q := by
  unfold roF
  by_cases h1 : r = i ∧ q = 0
  · obtain ⟨rfl, rfl⟩ := h1
    rw [if_pos ⟨rfl, rfl⟩, if_neg (by omega), if_pos rfl, if_neg (by omega), if_pos rfl]
  · rw [if_neg h1]
    by_cases h2 : r < i
    · rw [if_pos h2, if_pos h2]
    · rw [if_neg h2, if_neg h2]
      by_cases h3 : r = i
      · rw [if_pos h3, if_pos h3, if_neg (by omega), if_neg (by omega), if_neg (by omega), if_neg (by omega)]
      · rw [if_neg h3, if_neg h3]
theorem roF_at (s R : Nat) (rv : Nat → Nat → Nat) (i j : Nat) (hj : 1 ≤ j) : roF s R rv i j i (j - 1) = p1 s (rv i (j - 1)) ∧ roF s R rv i j i j = rv i j := by
  unfold roF
  constructor
  · rw [if_neg (by omega), if_pos rfl, if_neg (by omega), if_pos (by omega)]
  · rw [if_neg (by omega), if_pos rfl, if_neg (by omega), if_neg (by omega)]
theorem roF_step (s R : Nat) (rv : Nat → Nat → Nat) (i j : Nat) (hj : 1 ≤ j) (hjR : j < R) (r q : Nat) :
    (if r = i ∧ q = j then p1 s (rv i j) else (if r = i ∧ q = j - 1 then p1 s (rv i (j - 1)) ||| rev32 (rv i j) * 2 ^ s % 4294967296 else roF s R rv i j r q)) = roF s R rv i (j + 1) r q := by
  unfold roF
  by_cases h1 : r = i ∧ q = j
  · obtain ⟨rfl, rfl⟩ := h1
    rw [if_pos ⟨rfl, rfl⟩, if_neg (by omega), if_pos rfl, if_neg (by omega), if_pos rfl]
  · rw [if_neg h1]
    by_cases h2 : r = i ∧ q = j - 1
    · obtain ⟨rfl, rfl⟩ := h2
      rw [if_pos ⟨rfl, rfl⟩, if_neg (by omega), if_pos rfl, if_pos (by omega)]
      unfold outF
      rw [if_pos (by omega), show j - 1 + 1 = j by omega]
    · rw [if_neg h2]
      by_cases h3 : r < i
      · rw [if_pos h3, if_pos h3]
      · rw [if_neg h3, if_neg h3]
        by_cases h4 : r = i
        · rw [if_pos h4, if_pos h4]
          by_cases h5 : q + 1 < j
          · rw [if_pos h5, if_pos (by omega)]
          · rw [if_neg h5, if_neg (by omega), if_neg (by omega), if_neg (by omega)]
        · rw [if_neg h4, if_neg h4]
theorem roF_row (s R : Nat) (rv : Nat → Nat → Nat) (i r q : Nat) (hq : q < R) : roF s R rv i R r q = roF s R rv (i + 1) 0 r q := by
  unfold roF
  by_cases h1 : r < i
  · rw [if_pos h1, if_pos (by omega)]
  · rw [if_neg h1]
    by_cases h2 : r = i
    · rw [if_pos h2]
      rw [if_pos (show r < i + 1 by omega)]
      by_cases h3 : q + 1 < R
      · rw [if_pos h3]
      · rw [if_neg h3, if_pos (show q + 1 = R by omega)]; unfold outF; rw [if_neg h3]
    · rw [if_neg h2, if_neg (by omega)]
      by_cases h3 : r = i + 1
      · rw [if_pos h3, if_neg (by omega), if_neg (by omega)]
      · rw [if_neg h3]
theorem roF_zero (s R : Nat) (rv : Nat → Nat → Nat) (r q : Nat) : roF s R rv 0 0 r q = rv r q := by
  unfold roF
  rw [if_neg (by omega)]
  by_cases h : r = 0
  · rw [if_pos h, if_neg (by omega), if_neg (by omega)]
  · rw [if_neg h]
theorem roF_end (s R H : Nat) (rv : Nat → Nat → Nat) (r q : Nat) (hr : r < H) : roF s R rv H 0 r q = outF s R rv r q := by unfold roF; rw [if_pos hr]
theorem p1_bit (s v t : Nat) (hv : v < 4294967296) (hs1 : 1 ≤ s) (hs : s ≤ 31) : (p1 s v).testBit t = (decide (t < s) && v.testBit (s - 1 - t)) := by
  unfold p1
  rw [Nat.testBit_div_two_pow]
  by_cases h : t < s
  · rw [rev32_bit v _ hv (by omega), show 31 - (t + (32 - s)) = s - 1 - t by omega]; simp [h]
  · rw [Nat.testBit_lt_two_pow (Nat.lt_of_lt_of_le (rev32_lt v hv) (Nat.pow_le_pow_right (n := 2) (i := 32) (by decide) (by omega)))]; simp [h]
theorem outF_bit (W H R s : Nat) (o : Nat → Nat → Nat) (f : Nat → Nat → Bool) (hlt : ∀ r q, r < H → q < R → o r q < 4294967296) (hf : ∀ x y, x < W → y < H → (o y (x / 32)).testBit (x % 32) = f x y)
    (hs : W % 32 = s) (hs1 : 1 ≤ s) (hR : (W + 31) / 32 = R) (x y : Nat) (hx : x < W) (hy : y < H) :
    (outF s R (fun r q => o (H - 1 - r) (R - 1 - q)) y (x / 32)).testBit (x % 32) = f (W - 1 - x) (H - 1 - y) := by
  have hq : x / 32 < R := by omega
  have hW : W = 32 * (R - 1) + s := by omega
  have h0 := hlt (H - 1 - y) (R - 1 - x / 32) (by omega) (by omega)
  have b1 := p1_bit s (o (H - 1 - y) (R - 1 - x / 32)) (x % 32) h0 hs1 (by omega)
  have hfx := hf (W - 1 - x) (H - 1 - y) (by omega) (by omega)
  unfold outF
  by_cases ht : x % 32 < s
  · have e1 : (W - 1 - x) / 32 = R - 1 - x / 32 := by omega
    have e2 : (W - 1 - x) % 32 = s - 1 - x % 32 := by omega
    rw [e1, e2] at hfx
    by_cases hq1 : x / 32 + 1 < R
    · rw [if_pos hq1, Nat.testBit_or, b1, hfx]
      have : (rev32 (o (H - 1 - y) (R - 1 - (x / 32 + 1))) * 2 ^ s % 4294967296).testBit (x % 32) = false := by
        rw [show 4294967296 = 2 ^ 32 by rfl, Nat.testBit_mod_two_pow, Nat.testBit_mul_two_pow]
        simp; intro _ h; omega
      rw [this]; simp [ht]
    · rw [if_neg hq1, b1, hfx]; simp [ht]
  · have hq1 : x / 32 + 1 < R := by omega
    have h1 := hlt (H - 1 - y) (R - 1 - (x / 32 + 1)) (by omega) (by omega)
    have e1 : (W - 1 - x) / 32 = R - 1 - (x / 32 + 1) := by omega
    have e2 : (W - 1 - x) % 32 = 31 - (x % 32 - s) := by omega
    rw [e1, e2] at hfx
    rw [if_pos hq1, Nat.testBit_or, b1]
    have : (rev32 (o (H - 1 - y) (R - 1 - (x / 32 + 1))) * 2 ^ s % 4294967296).testBit (x % 32) = f (W - 1 - x) (H - 1 - y) := by
      rw [show 4294967296 = 2 ^ 32 by rfl, Nat.testBit_mod_two_pow, Nat.testBit_mul_two_pow, rev32_bit _ _ h1 (by omega), hfx]
      have h2 : x % 32 < 32 := by omega
      have h3 : s ≤ x % 32 := by omega
      simp [h2, h3]
    rw [this]; simp [ht]
end Go.Proofs.Ytbfkjfgjeaofpaa
