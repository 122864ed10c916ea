/-
  PLAIN: what bits of an Aztec text say: numbers in so many bits, the modes' tables, and the reader's way.
-/
import Derived.Test.YtpjaehljgpopmaaStr
namespace Go.Proofs.Ytpjaehljgpopmaa

/-- A number in so many bits, the highest one first. -/
def putL (n many : Nat) : List Bool := (List.range many).map fun i => (n / 2 ^ (many - 1 - i)) % 2 == 1
theorem putL_len (n many : Nat) : (putL n many).length = many := by simp [putL]
theorem putL_succ (n many : Nat) : putL n (many + 1) = ((n / 2 ^ many) % 2 == 1) :: putL n many := by
  unfold putL
  rw [List.range_succ_eq_map, List.map_cons, List.map_map]
  congr 1
  apply List.map_congr_left
  intro i _
  simp only [Function.comp_apply]
  have : many + 1 - 1 - i.succ = many - 1 - i := by omega
  rw [this]
/-- The number that bits say. -/
def valL (l : List Bool) : Nat := l.foldl (fun r b => 2 * r + b.toNat) 0
theorem valL_snoc (l : List Bool) (b : Bool) : valL (l ++ [b]) = 2 * valL l + b.toNat := by simp [valL]
theorem foldl_val (l : List Bool) (r : Nat) : l.foldl (fun r b => 2 * r + b.toNat) r = r * 2 ^ l.length + valL l := by
  induction l generalizing r with
  | nil => simp [valL]
  | cons b l ih =>
    rw [List.foldl_cons, ih]
    have h2 : valL (b :: l) = b.toNat * 2 ^ l.length + valL l := by
      unfold valL; rw [List.foldl_cons, ih]; simp [valL]
    rw [h2, List.length_cons, Nat.pow_succ, Nat.add_mul]
    have : 2 * r * 2 ^ l.length = r * (2 ^ l.length * 2) := by rw [Nat.mul_comm 2 r, Nat.mul_assoc, Nat.mul_comm 2]
    omega
theorem valL_cons (b : Bool) (l : List Bool) : valL (b :: l) = b.toNat * 2 ^ l.length + valL l := by
  have := foldl_val l (2 * 0 + b.toNat)
  unfold valL at *
  rw [List.foldl_cons, this]; simp
theorem valL_lt (l : List Bool) : valL l < 2 ^ l.length := by
  induction l with
  | nil => simp [valL]
  | cons b l ih =>
    rw [valL_cons, List.length_cons, Nat.pow_succ]
    have hb : b.toNat ≤ 1 := by cases b <;> decide
    have : b.toNat * 2 ^ l.length ≤ 1 * 2 ^ l.length := Nat.mul_le_mul_right _ hb
    omega
theorem valL_putL (n many : Nat) : valL (putL n many) = n % 2 ^ many := by
  induction many with
  | zero => simp [putL, valL, Nat.mod_one]
  | succ m ih =>
    rw [putL_succ, valL_cons, putL_len, ih]
    have e : ((n / 2 ^ m) % 2 == 1).toNat = (n / 2 ^ m) % 2 := by
      rcases Nat.mod_two_eq_zero_or_one (n / 2 ^ m) with h | h <;> simp [h]
    rw [e, Nat.pow_succ]
    have h1 := Nat.mod_mul (x := n) (a := 2 ^ m) (b := 2)
    rw [h1, Nat.mul_comm (2 ^ m)]
    omega

/-- The strings of the tables, as the reader has them: 0 upper, 1 lower, 2 mixed, 3 digits, 4 punctuation. -/
def ctrlS (a b : UInt8) : List UInt8 := [67, 84, 82, 76, 95, a, b]
def flgS : List UInt8 := [70, 76, 71, 40, 110, 41]
def tabL : Nat → List (List UInt8)
  | 0 => [ctrlS 80 83, [32], [65], [66], [67], [68], [69], [70], [71], [72], [73], [74], [75], [76], [77], [78], [79], [80], [81], [82], [83], [84], [85], [86], [87], [88], [89], [90], ctrlS 76 76, ctrlS 77 76, ctrlS 68 76, ctrlS 66 83]
  | 1 => [ctrlS 80 83, [32], [97], [98], [99], [100], [101], [102], [103], [104], [105], [106], [107], [108], [109], [110], [111], [112], [113], [114], [115], [116], [117], [118], [119], [120], [121], [122], ctrlS 85 83, ctrlS 77 76, ctrlS 68 76, ctrlS 66 83]
  | 2 => [ctrlS 80 83, [32], [1], [2], [3], [4], [5], [6], [7], [8], [9], [10], [11], [12], [13], [27], [28], [29], [30], [31], [64], [92], [94], [95], [96], [124], [126], [127], ctrlS 76 76, ctrlS 85 76, ctrlS 80 76, ctrlS 66 83]
  | 3 => [ctrlS 80 83, [32], [48], [49], [50], [51], [52], [53], [54], [55], [56], [57], [44], [46], ctrlS 85 76, ctrlS 85 83]
  | 4 => [flgS, [13], [13, 10], [46, 32], [44, 32], [58, 32], [33], [34], [35], [36], [37], [38], [39], [40], [41], [42], [43], [44], [45], [46], [47], [58], [59], [60], [61], [62], [63], [91], [93], [123], [125], ctrlS 85 76]
  | _ => []
def tabS (t c : Nat) : List UInt8 := (tabL t).getD c []
/-- How many bits a number has in a mode. -/
def sizeT (t : Nat) : Nat := if t = 3 then 4 else 5
theorem tabL_len (t : Nat) (h : t < 5) : (tabL t).length = 2 ^ sizeT t := by
  have : t = 0 ∨ t = 1 ∨ t = 2 ∨ t = 3 ∨ t = 4 := by omega
  rcases this with rfl | rfl | rfl | rfl | rfl <;> rfl
/-- The mode that a letter names. -/
def modeT (a : UInt8) : Nat := if a = 76 then 1 else if a = 80 then 4 else if a = 77 then 2 else if a = 68 then 3 else if a = 66 then 5 else 0
/-- What an entry of the tables is: bytes, another mode, or a function that the reader is not asked for here. -/
inductive EntK (l : List UInt8) : Prop
  | text (h1 : l ≠ flgS) (h2 : ¬ [67, 84, 82, 76, 95] <+: l) (h3 : l ≠ []) (h4 : l.length ≤ 2)
  | ctrl (a b : UInt8) (h : l = ctrlS a b) (hm : a = 76 ∨ a = 80 ∨ a = 77 ∨ a = 68 ∨ a = 66 ∨ a = 85) (hb : b = 76 → a ≠ 66)
  | flg (h : l = flgS)
def entB (l : List UInt8) : Bool := (l != flgS && !([67, 84, 82, 76, 95].isPrefixOf l) && l != [] && decide (l.length ≤ 2)) || (l == ctrlS (l.getD 5 0) (l.getD 6 0) && [76, 80, 77, 68, 66, 85].contains (l.getD 5 0) && (l.getD 6 0 != 76 || l.getD 5 0 != 66)) || l == flgS
theorem entK (l : List UInt8) (h : entB l = true) : EntK l := by
  unfold entB at h
  simp only [Bool.or_eq_true, Bool.and_eq_true, bne_iff_ne, ne_eq, Bool.not_eq_true', decide_eq_true_eq, beq_iff_eq] at h
  rcases h with (⟨⟨⟨h1, h2⟩, h3⟩, h4⟩ | ⟨⟨h1, h2⟩, h5⟩) | h
  · exact .text h1 (fun hp => by rw [List.isPrefixOf_iff_prefix.2 hp] at h2; cases h2) h3 h4
  · exact .ctrl _ _ h1 (by simpa using h2) (fun h6 => by rcases h5 with h5 | h5; exact absurd h6 h5; exact h5)
  · exact .flg h
theorem tab_ent (t c : Nat) (h : t < 5) (hc : c < 2 ^ sizeT t) : EntK (tabS t c) := by
  apply entK
  have ha : ∀ t, t < 5 → (tabL t).all entB = true := by decide
  have := List.all_eq_true.1 (ha t h)
  have hl := tabL_len t h
  unfold tabS
  rw [List.getD, List.getElem?_eq_getElem (by omega)]
  exact this _ (List.getElem_mem _)

/-- Bytes of so many times eight bits; what is not there ends them: what is said, and what is left. -/
def takeB : Nat → List Bool → List UInt8 × List Bool
  | 0, l => ([], l)
  | k + 1, l => if l.length < 8 then ([], []) else
    let r := takeB k (l.drop 8)
    (UInt8.ofNat (valL (l.take 8)) :: r.1, r.2)
/-- The reader's way: what is said from a state on; none: a function that it is not asked for here. -/
def dec : Nat → List Bool → Nat → Nat → Option (List UInt8)
  | 0, _, _, _ => none
  | f + 1, l, latch, shift =>
    if l.length = 0 then some []
    else if shift = 5 then
      if l.length < 5 then some []
      else if valL (l.take 5) = 0 then
        if (l.drop 5).length < 11 then some []
        else (dec f (takeB (valL ((l.drop 5).take 11) + 31) (l.drop 16)).2 latch latch).map ((takeB (valL ((l.drop 5).take 11) + 31) (l.drop 16)).1 ++ ·)
      else (dec f (takeB (valL (l.take 5)) (l.drop 5)).2 latch latch).map ((takeB (valL (l.take 5)) (l.drop 5)).1 ++ ·)
    else if l.length < sizeT shift then some []
    else
      let s := tabS shift (valL (l.take (sizeT shift)))
      if s = flgS then none
      else if [67, 84, 82, 76, 95] <+: s then dec f (l.drop (sizeT shift)) (if s.getD 6 0 = 76 then modeT (s.getD 5 0) else shift) (modeT (s.getD 5 0))
      else (dec f (l.drop (sizeT shift)) latch latch).map (s ++ ·)

/-! One step of the reader -/
section
variable {f lt sh : Nat} {l : List Bool} {rest : List UInt8}
theorem dec_end (h : dec f l lt sh = some rest) (hl : l.length = 0) : rest = [] := by
  rcases f with _ | f
  · cases h
  · rw [dec, if_pos hl] at h; injection h with h; exact h.symm
theorem dec_short5 (h : dec f l lt 5 = some rest) (hl : l.length < 5) : rest = [] := by
  rcases f with _ | f
  · cases h
  · by_cases h0 : l.length = 0
    · exact dec_end h h0
    · rw [dec, if_neg h0, if_pos rfl, if_pos hl] at h; injection h with h; exact h.symm
theorem dec_bin (h : dec f l lt 5 = some rest) (hl : 5 ≤ l.length) (hv : valL (l.take 5) ≠ 0) : ∃ f' r, rest = (takeB (valL (l.take 5)) (l.drop 5)).1 ++ r ∧ dec f' (takeB (valL (l.take 5)) (l.drop 5)).2 lt lt = some r := by
  rcases f with _ | f
  · cases h
  · rw [dec, if_neg (by omega), if_pos rfl, if_neg (by omega), if_neg hv, Option.map_eq_some_iff] at h
    obtain ⟨r, h1, h2⟩ := h
    exact ⟨f, r, h2.symm, h1⟩
theorem dec_short11 (h : dec f l lt 5 = some rest) (hl : 5 ≤ l.length) (hv : valL (l.take 5) = 0) (h2 : l.length < 16) : rest = [] := by
  rcases f with _ | f
  · cases h
  · rw [dec, if_neg (by omega), if_pos rfl, if_neg (by omega), if_pos hv, if_pos (by rw [List.length_drop]; omega)] at h
    injection h with h; exact h.symm
theorem dec_binL (h : dec f l lt 5 = some rest) (hl : 16 ≤ l.length) (hv : valL (l.take 5) = 0) : ∃ f' r, rest = (takeB (valL ((l.drop 5).take 11) + 31) (l.drop 16)).1 ++ r ∧ dec f' (takeB (valL ((l.drop 5).take 11) + 31) (l.drop 16)).2 lt lt = some r := by
  rcases f with _ | f
  · cases h
  · rw [dec, if_neg (by omega), if_pos rfl, if_neg (by omega), if_pos hv, if_neg (by rw [List.length_drop]; omega), Option.map_eq_some_iff] at h
    obtain ⟨r, h1, h2⟩ := h
    exact ⟨f, r, h2.symm, h1⟩
theorem dec_short (h : dec f l lt sh = some rest) (hs : sh ≠ 5) (hl : l.length < sizeT sh) : rest = [] := by
  rcases f with _ | f
  · cases h
  · by_cases h0 : l.length = 0
    · exact dec_end h h0
    · rw [dec, if_neg h0, if_neg hs, if_pos hl] at h; injection h with h; exact h.symm
theorem sizeT_pos (t : Nat) : 4 ≤ sizeT t ∧ sizeT t ≤ 5 := by unfold sizeT; split <;> omega
theorem dec_noflg (h : dec f l lt sh = some rest) (hs : sh ≠ 5) (hl : sizeT sh ≤ l.length) : tabS sh (valL (l.take (sizeT sh))) ≠ flgS := by
  have hp := sizeT_pos sh
  rcases f with _ | f
  · cases h
  · intro he
    rw [dec, if_neg (by omega), if_neg hs, if_neg (by omega)] at h
    simp only [he, if_true] at h
    cases h
theorem dec_ctrl (h : dec f l lt sh = some rest) (hs : sh ≠ 5) (hl : sizeT sh ≤ l.length) (a b : UInt8) (he : tabS sh (valL (l.take (sizeT sh))) = ctrlS a b) : ∃ f', dec f' (l.drop (sizeT sh)) (if b = 76 then modeT a else sh) (modeT a) = some rest := by
  have hp := sizeT_pos sh
  rcases f with _ | f
  · cases h
  · rw [dec, if_neg (by omega), if_neg hs, if_neg (by omega)] at h
    simp only [he] at h
    rw [if_neg (by unfold ctrlS flgS; simp), if_pos ⟨[a, b], rfl⟩] at h
    exact ⟨f, h⟩
theorem dec_text (h : dec f l lt sh = some rest) (hs : sh ≠ 5) (hl : sizeT sh ≤ l.length) (h1 : tabS sh (valL (l.take (sizeT sh))) ≠ flgS) (h2 : ¬ [67, 84, 82, 76, 95] <+: tabS sh (valL (l.take (sizeT sh)))) :
    ∃ f' r, rest = tabS sh (valL (l.take (sizeT sh))) ++ r ∧ dec f' (l.drop (sizeT sh)) lt lt = some r := by
  have hp := sizeT_pos sh
  rcases f with _ | f
  · cases h
  · rw [dec, if_neg (by omega), if_neg hs, if_neg (by omega)] at h
    simp only at h
    rw [if_neg h1, if_neg h2, Option.map_eq_some_iff] at h
    obtain ⟨r, h3, h4⟩ := h
    exact ⟨f, r, h4.symm, h3⟩
end
theorem takeB_succ (k : Nat) (l : List Bool) (h : 8 ≤ l.length) : takeB (k + 1) l = (UInt8.ofNat (valL (l.take 8)) :: (takeB k (l.drop 8)).1, (takeB k (l.drop 8)).2) := by
  rw [takeB, if_neg (by omega)]
theorem takeB_short (k : Nat) (l : List Bool) (h : l.length < 8) : takeB (k + 1) l = ([], []) := by
  rw [takeB, if_pos h]

/-- Bits that say bytes below 128 as they are. -/
def byteBits (l : List UInt8) : List Bool := l.flatMap fun b => putL b.toNat 8
theorem byteBits_len (l : List UInt8) : (byteBits l).length = 8 * l.length := by
  induction l with
  | nil => rfl
  | cons b l ih =>
    have : byteBits (b :: l) = putL b.toNat 8 ++ byteBits l := rfl
    rw [this, List.length_append, ih, putL_len, List.length_cons]; omega
theorem take_app {α : Type} (a b : List α) (n : Nat) (h : a.length = n) : (a ++ b).take n = a := by rw [List.take_append_of_le_length (by omega), List.take_of_length_le (by omega)]
theorem drop_app {α : Type} (a b : List α) (n : Nat) (h : a.length = n) : (a ++ b).drop n = b := by rw [← h]; exact List.drop_left
theorem takeB_bits (l : List UInt8) (r : List Bool) : takeB l.length (byteBits l ++ r) = (l, r) := by
  induction l with
  | nil => rfl
  | cons b l ih =>
    have e : byteBits (b :: l) ++ r = putL b.toNat 8 ++ (byteBits l ++ r) := by
      have : byteBits (b :: l) = putL b.toNat 8 ++ byteBits l := rfl
      rw [this, List.append_assoc]
    rw [e, List.length_cons, takeB, if_neg (by rw [List.length_append, putL_len]; omega)]
    simp only [drop_app _ _ 8 (putL_len _ _), take_app _ _ 8 (putL_len _ _), ih, valL_putL]
    have hb := b.toNat_lt
    rw [Nat.mod_eq_of_lt (by omega)]
    simp
/-- The head of a piece of bytes. -/
def headL (n : Nat) : List Bool := putL 31 5 ++ (if n < 32 then putL n 5 else putL 0 5 ++ putL (n - 31) 11)
theorem dec_piece (f : Nat) (l : List UInt8) (r : List Bool) (h0 : 0 < l.length) (h1 : l.length ≤ 2000) :
    dec (f + 2) (headL l.length ++ byteBits l ++ r) 0 0 = (dec f r 0 0).map (l ++ ·) := by
  have e : headL l.length ++ byteBits l ++ r = putL 31 5 ++ ((if l.length < 32 then putL l.length 5 else putL 0 5 ++ putL (l.length - 31) 11) ++ (byteBits l ++ r)) := by
    unfold headL; simp only [List.append_assoc]
  rw [e]
  have e5 : sizeT 0 = 5 := rfl
  rw [dec, if_neg (by rw [List.length_append, putL_len]; omega), if_neg (by decide), if_neg (by rw [e5, List.length_append, putL_len]; omega)]
  simp only [e5, take_app _ _ 5 (putL_len _ _), drop_app _ _ 5 (putL_len _ _)]
  have ev : tabS 0 (valL (putL 31 5)) = ctrlS 66 83 := by decide
  rw [ev, if_neg (by decide), if_pos (by decide)]
  have em : modeT ((ctrlS 66 83).getD 5 0) = 5 := by decide
  have el : (if (ctrlS 66 83).getD 6 0 = 76 then modeT ((ctrlS 66 83).getD 5 0) else 0) = 0 := by decide
  rw [el, em]
  have hbl := byteBits_len l
  by_cases hl : l.length < 32
  · rw [if_pos hl]
    rw [dec, if_neg (by rw [List.length_append, putL_len]; omega), if_pos rfl, if_neg (by rw [List.length_append, putL_len]; omega)]
    simp only [take_app _ _ 5 (putL_len _ _), drop_app _ _ 5 (putL_len _ _)]
    rw [valL_putL, Nat.mod_eq_of_lt (by omega), if_neg (by omega), takeB_bits]
  · rw [if_neg hl]
    rw [dec, if_neg (by simp only [List.length_append, putL_len]; omega), if_pos rfl, if_neg (by simp only [List.length_append, putL_len]; omega)]
    have e2 : (putL 0 5 ++ putL (l.length - 31) 11 ++ (byteBits l ++ r)).drop 16 = byteBits l ++ r := drop_app _ _ 16 (by simp only [List.length_append, putL_len])
    rw [e2, List.append_assoc]
    simp only [take_app _ _ 5 (putL_len _ _), drop_app _ _ 5 (putL_len _ _)]
    have e0 : valL (putL 0 5) = 0 := by decide
    rw [e0, if_pos rfl, if_neg (by simp only [List.length_append, putL_len]; omega)]
    simp only [take_app _ _ 11 (putL_len _ _)]
    rw [valL_putL, Nat.mod_eq_of_lt (by omega)]
    have e3 : l.length - 31 + 31 = l.length := by omega
    rw [e3, takeB_bits]
/-- Bits that say a string, all as it is, in pieces of at most 62. -/
def plainL : Nat → List UInt8 → List Bool
  | 0, _ => []
  | f + 1, l => if l.length = 0 then [] else headL (l.take 62).length ++ byteBits (l.take 62) ++ plainL f (l.drop 62)
theorem dec_plain (f : Nat) (l : List UInt8) (h : l.length ≤ 62 * f) : dec (2 * f + 1) (plainL f l) 0 0 = some l := by
  induction f generalizing l with
  | zero =>
    have : l = [] := List.eq_nil_of_length_eq_zero (by omega)
    subst this; rfl
  | succ f ih =>
    by_cases h0 : l.length = 0
    · have : l = [] := List.eq_nil_of_length_eq_zero h0
      subst this
      rw [plainL, if_pos h0]; rfl
    · rw [plainL, if_neg h0]
      have e : 2 * (f + 1) + 1 = (2 * f + 1) + 2 := by omega
      have hl : (l.take 62).length ≤ 62 := by rw [List.length_take]; omega
      have hl0 : 0 < (l.take 62).length := by rw [List.length_take]; omega
      rw [e, dec_piece _ _ _ hl0 (by omega), ih _ (by rw [List.length_drop]; omega)]
      simp [List.take_append_drop]
end Go.Proofs.Ytpjaehljgpopmaa
