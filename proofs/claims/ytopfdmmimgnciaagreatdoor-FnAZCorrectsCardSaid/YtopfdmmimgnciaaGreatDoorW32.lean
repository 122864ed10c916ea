/-
  PLAIN: bits of words, the highest one first, as numbers. PLAIN: words of Data Matrix in the modes ASCII, C40 and EDIFACT, and what they say. WALKS: strconv.Itoa of a number below 100.
-/
import Derived.Test.YtopfdmmimgnciaaGreatDoorW01
import Derived.Lib.ItoaNum
import Derived.Lib.Strings
import Derived.Lib.ItoaWalk
import Derived.Test.YtopfdmmimgnciaaGreatDoorW02
namespace Go.Proofs.YtopfdmmimgnciaaGreatDoor
open Go.RowKit

/-- Bit p of bytes, the highest one of each first. -/
def bitB (bs : List Nat) (p : Nat) : Nat := bs.getD (p / 8) 0 / 2 ^ (7 - p % 8) % 2
/-- The number of n bits from p on. -/
def rb (bs : List Nat) (p : Nat) : Nat → Nat
  | 0 => 0
  | n + 1 => 2 * rb bs p n + bitB bs (p + n)
theorem rb_lt (bs : List Nat) (p : Nat) : ∀ n, rb bs p n < 2 ^ n
  | 0 => by simp [rb]
  | n + 1 => by
    have h := rb_lt bs p n
    have hb : bitB bs (p + n) < 2 := Nat.mod_lt _ (by decide)
    unfold rb
    rw [Nat.pow_succ]
    omega
theorem rb_add (bs : List Nat) (p a : Nat) : ∀ b, rb bs p (a + b) = rb bs p a * 2 ^ b + rb bs (p + a) b
  | 0 => by simp [rb]
  | b + 1 => by
    have h := rb_add bs p a b
    show 2 * rb bs p (a + b) + bitB bs (p + (a + b)) = _
    rw [h]
    show _ = rb bs p a * 2 ^ (b + 1) + (2 * rb bs (p + a) b + bitB bs (p + a + b))
    rw [Nat.pow_succ, Nat.add_assoc p a b]
    generalize bitB bs (p + (a + b)) = z
    rw [Nat.mul_add, ← Nat.mul_assoc, Nat.mul_comm 2 (rb bs p a), Nat.mul_assoc, Nat.mul_comm 2 (2 ^ b)]
    omega
theorem div_bit (b i : Nat) : b / 2 ^ i = 2 * (b / 2 ^ (i + 1)) + b / 2 ^ i % 2 := by
  rw [Nat.pow_succ, ← Nat.div_div_eq_div_mul]
  omega
/-- Bits within one byte. -/
theorem rb_in (bs : List Nat) (q o : Nat) : ∀ k, o + k ≤ 8 → rb bs (8 * q + o) k = bs.getD q 0 / 2 ^ (8 - o - k) % 2 ^ k
  | 0, _ => by simp [rb, Nat.mod_one]
  | k + 1, h => by
    have ih := rb_in bs q o k (by omega)
    unfold rb
    rw [ih]
    unfold bitB
    rw [show (8 * q + o + k) / 8 = q by omega, show (8 * q + o + k) % 8 = o + k by omega]
    generalize bs.getD q 0 = b
    rw [show 8 - o - k = (8 - o - (k + 1)) + 1 by omega, show 7 - (o + k) = 8 - o - (k + 1) by omega]
    generalize 8 - o - (k + 1) = i
    have e := div_bit b i
    rw [show b / 2 ^ i % 2 ^ (k + 1) = (2 * (b / 2 ^ (i + 1)) + b / 2 ^ i % 2) % 2 ^ (k + 1) by rw [← e]]
    generalize b / 2 ^ (i + 1) = c
    have hz : b / 2 ^ i % 2 < 2 := Nat.mod_lt _ (by decide)
    generalize b / 2 ^ i % 2 = z at *
    rw [Nat.pow_succ, Nat.mul_comm (2 ^ k) 2, Nat.mod_mul]
    have e1 : (2 * c + z) % 2 = z := by omega
    have e2 : (2 * c + z) / 2 = c := by omega
    rw [e1, e2]
    omega
/-- A whole byte. -/
theorem rb_byte (bs : List Nat) (q : Nat) (h : bs.getD q 0 < 256) : rb bs (8 * q) 8 = bs.getD q 0 := by
  have e := rb_in bs q 0 8 (by decide)
  rw [Nat.add_zero] at e
  rw [e, Nat.sub_zero, Nat.sub_self, Nat.pow_zero, Nat.div_one, Nat.mod_eq_of_lt h]
/-- A byte's bits by a mask. -/
theorem mask_all : ∀ b, b < 256 → ∀ t, t < 9 → ∀ r, r < 9 → t + r ≤ 8 → Nat.land b (255 / 2 ^ (8 - t) * 2 ^ r % 256) / 2 ^ r = b / 2 ^ r % 2 ^ t := by
  decide +kernel
end Go.Proofs.YtopfdmmimgnciaaGreatDoor
namespace Go.Proofs.YtopfdmmimgnciaaGreatDoor
open Go.RowKit

def isDg (c : UInt8) : Bool := decide (48 ≤ c.toNat) && decide (c.toNat ≤ 57)
/-- Words of ASCII. -/
def ascW : List UInt8 → List Nat
  | [] => []
  | [a] => [a.toNat + 1]
  | a :: b :: r => if (isDg a && isDg b) = true then (130 + 10 * (a.toNat - 48) + (b.toNat - 48)) :: ascW r else (a.toNat + 1) :: ascW (b :: r)
/-- The two digits of a number below 100. -/
def dg2 (d : Nat) : List UInt8 := [UInt8.ofNat (48 + d / 10), UInt8.ofNat (48 + d % 10)]
/-- What a run of ASCII words says: the words that are left, the text, how many are taken, the mode behind it. -/
inductive Asc : List Nat → List UInt8 → Nat → Nat → Prop
  | one (c : Nat) (r : List Nat) (h1 : 1 ≤ c) (h2 : c ≤ 128) : Asc (c :: r) [UInt8.ofNat (c - 1)] 1 1
  | pad (r : List Nat) : Asc (129 :: r) [] 1 0
  | two (d : Nat) (r : List Nat) (t : List UInt8) (k m : Nat) (h : d < 100) (ha : Asc r t k m) : Asc ((130 + d) :: r) (dg2 d ++ t) (k + 1) m
  | c40 (r : List Nat) : Asc (230 :: r) [] 1 2
  | edi (r : List Nat) : Asc (240 :: r) [] 1 5
theorem Asc.pos {ws : List Nat} {t : List UInt8} {k m : Nat} (h : Asc ws t k m) : 1 ≤ k ∧ k ≤ ws.length ∧ t.length ≤ 2 * k ∧ (m = 0 ∨ m = 1 ∨ m = 2 ∨ m = 5) := by
  induction h with
  | one c r h1 h2 => simp
  | pad r => simp
  | two d r t k m h ha ih => simp [dg2]; omega
  | c40 r => simp
  | edi r => simp
/-! ### C40 -/
def bas (v : Nat) : Nat := if v = 3 then 32 else if v < 14 then v + 44 else v + 51
def sh2 (v : Nat) : Nat := if v < 15 then v + 33 else if v < 22 then v + 43 else v + 69
/-- What values say, from a shift on. -/
def c40S : Nat → List Nat → Option (List UInt8)
  | _, [] => some []
  | 0, v :: r => if v < 3 then c40S (v + 1) r else if v < 40 then (c40S 0 r).map (UInt8.ofNat (bas v) :: ·) else none
  | 1, v :: r => if v < 40 then (c40S 0 r).map (UInt8.ofNat v :: ·) else none
  | 2, v :: r => if v < 27 then (c40S 0 r).map (UInt8.ofNat (sh2 v) :: ·) else none
  | 3, v :: r => if v < 40 then (c40S 0 r).map (UInt8.ofNat (v + 96) :: ·) else none
  | _ + 4, _ :: _ => none
theorem c40S_lt : ∀ (vs : List Nat) (s : Nat) (t : List UInt8), c40S s vs = some t → ∀ v ∈ vs, v < 40
  | [], _, _, _, _, hv => by cases hv
  | x :: r, s, t, h, v, hv => by
    have step : ∀ (s' : Nat) (t' : List UInt8), c40S s' r = some t' → x < 40 → v < 40 := fun s' t' h' hx => by
      rcases List.mem_cons.1 hv with rfl | hv'
      · exact hx
      · exact c40S_lt r s' t' h' v hv'
    match s, h with
    | 0, h =>
      unfold c40S at h
      split at h
      · exact step _ _ h (by omega)
      · split at h
        · obtain ⟨t', h', -⟩ := Option.map_eq_some_iff.1 h
          exact step _ _ h' (by assumption)
        · cases h
    | 1, h =>
      unfold c40S at h
      split at h
      · obtain ⟨t', h', -⟩ := Option.map_eq_some_iff.1 h
        exact step _ _ h' (by assumption)
      · cases h
    | 2, h =>
      unfold c40S at h
      split at h
      · obtain ⟨t', h', -⟩ := Option.map_eq_some_iff.1 h
        exact step _ _ h' (by omega)
      · cases h
    | 3, h =>
      unfold c40S at h
      split at h
      · obtain ⟨t', h', -⟩ := Option.map_eq_some_iff.1 h
        exact step _ _ h' (by assumption)
      · cases h
    | s + 4, h => unfold c40S at h; cases h
/-- Two words for each three values. -/
def tripW : List Nat → List Nat
  | a :: b :: c :: r => ((1600 * a + 40 * b + c + 1) / 256) :: ((1600 * a + 40 * b + c + 1) % 256) :: tripW r
  | _ => []
/-- The values of a byte. -/
def c40V (n : Nat) : List Nat :=
  if n = 32 then [3] else if 48 ≤ n ∧ n ≤ 57 then [n - 44] else if n < 32 then [0, n] else if n ≤ 47 then [1, n - 33] else if n ≤ 64 then [1, n - 43] else if n ≤ 90 then [n - 51] else if n ≤ 95 then [1, n - 69] else [2, n - 96]
def c40L (t : List UInt8) : List Nat := t.flatMap fun c => c40V c.toNat
theorem c40V_all : ∀ n, n < 128 → (∃ v, c40V n = [v] ∧ 3 ≤ v ∧ v < 40 ∧ bas v = n) ∨ (c40V n = [0, n] ∧ n < 40) ∨ (∃ v, c40V n = [1, v] ∧ v < 27 ∧ sh2 v = n) ∨ (∃ v, c40V n = [2, v] ∧ v < 40 ∧ v + 96 = n) := by
  intro n hn
  unfold c40V
  split
  · subst n; exact .inl ⟨3, rfl, by decide, by decide, rfl⟩
  · split
    · refine .inl ⟨n - 44, rfl, by omega, by omega, ?_⟩
      unfold bas; rw [if_neg (by omega), if_pos (by omega)]; omega
    · split
      · exact .inr (.inl ⟨rfl, by omega⟩)
      · split
        · refine .inr (.inr (.inl ⟨n - 33, rfl, by omega, ?_⟩))
          unfold sh2; rw [if_pos (by omega)]; omega
        · split
          · refine .inr (.inr (.inl ⟨n - 43, rfl, by omega, ?_⟩))
            unfold sh2; rw [if_neg (by omega), if_pos (by omega)]; omega
          · split
            · refine .inl ⟨n - 51, rfl, by omega, by omega, ?_⟩
              unfold bas; rw [if_neg (by omega), if_neg (by omega)]; omega
            · split
              · refine .inr (.inr (.inl ⟨n - 69, rfl, by omega, ?_⟩))
                unfold sh2; rw [if_neg (by omega), if_neg (by omega)]; omega
              · exact .inr (.inr (.inr ⟨n - 96, rfl, by omega, by omega⟩))
theorem ofNat_toNat8 (c : UInt8) : UInt8.ofNat c.toNat = c := by simp
theorem c40S_one (c : UInt8) (hc : c.toNat < 128) (r : List Nat) : c40S 0 (c40V c.toNat ++ r) = (c40S 0 r).map (c :: ·) := by
  rcases c40V_all c.toNat hc with ⟨v, h, h1, h2, h3⟩ | ⟨h, h1⟩ | ⟨v, h, h1, h2⟩ | ⟨v, h, h1, h2⟩
  · rw [h]
    show c40S 0 (v :: r) = _
    rw [c40S, if_neg (by omega), if_pos h2, h3, ofNat_toNat8]
  · rw [h]
    show c40S 0 (0 :: c.toNat :: r) = _
    rw [c40S, if_pos (by decide)]
    show c40S 1 (c.toNat :: r) = _
    rw [c40S, if_pos h1, ofNat_toNat8]
  · rw [h]
    show c40S 0 (1 :: v :: r) = _
    rw [c40S, if_pos (by decide)]
    show c40S 2 (v :: r) = _
    rw [c40S, if_pos h1, h2, ofNat_toNat8]
  · rw [h]
    show c40S 0 (2 :: v :: r) = _
    rw [c40S, if_pos (by decide)]
    show c40S 3 (v :: r) = _
    rw [c40S, if_pos h1, h2, ofNat_toNat8]
theorem c40S_all : ∀ t : List UInt8, (∀ c ∈ t, c.toNat < 128) → c40S 0 (c40L t) = some t
  | [], _ => rfl
  | c :: t, h => by
    have ih := c40S_all t (fun x hx => h x (List.mem_cons_of_mem _ hx))
    show c40S 0 (c40V c.toNat ++ c40L t) = _
    rw [c40S_one c (h c (List.mem_cons_self ..)), ih]
    rfl
theorem c40L_snoc (t : List UInt8) (c : UInt8) : c40L (t ++ [c]) = c40L t ++ c40V c.toNat := by simp [c40L]
theorem c40L_app (a b : List UInt8) : c40L (a ++ b) = c40L a ++ c40L b := by simp [c40L]
theorem c40V_len (n : Nat) : 1 ≤ (c40V n).length ∧ (c40V n).length ≤ 2 := by
  unfold c40V
  split
  · simp
  · split
    · simp
    · split
      · simp
      · split
        · simp
        · split
          · simp
          · split
            · simp
            · split <;> simp
theorem c40L_len : ∀ t : List UInt8, t.length ≤ (c40L t).length ∧ (c40L t).length ≤ 2 * t.length
  | [] => ⟨Nat.le_refl _, Nat.le_refl _⟩
  | c :: t => by
    have ih := c40L_len t
    have h := c40V_len c.toNat
    have e : (c40L (c :: t)).length = (c40V c.toNat).length + (c40L t).length := by simp [c40L]
    rw [e, List.length_cons]
    omega
/-! ### What the words from a mode on say, up to the pad -/
/-- A segment of C40: threes of values, the unlatch, and more. -/
def C40P (ws : List Nat) (t : List UInt8) (k : Nat) : Prop := ∃ vs r, ws = tripW vs ++ 254 :: r ∧ vs.length % 3 = 0 ∧ c40S 0 vs = some t ∧ k = 2 * (vs.length / 3) + 1 ∧ 1 ≤ r.length
/-- A segment of EDIFACT: six bits a byte, the unlatch, and more. -/
def EdiP (ws : List Nat) (t : List UInt8) (k : Nat) : Prop :=
  (∀ (j : Nat) (c : UInt8), t[j]? = some c → 32 ≤ c.toNat ∧ c.toNat ≤ 94 ∧ rb ws (6 * j) 6 = c.toNat % 64) ∧ rb ws (6 * t.length) 6 = 31 ∧ k = (6 * t.length + 13) / 8 ∧ 6 * t.length + 30 ≤ 8 * ws.length
inductive Said : Nat → List Nat → List UInt8 → Prop
  | done (ws : List Nat) : Said 0 ws []
  | asc (ws : List Nat) (t t2 : List UInt8) (k m : Nat) (h : Asc ws t k m) (h2 : Said m (ws.drop k) t2) : Said 1 ws (t ++ t2)
  | c40 (ws : List Nat) (t t2 : List UInt8) (k : Nat) (h : C40P ws t k) (h2 : Said 1 (ws.drop k) t2) : Said 2 ws (t ++ t2)
  | edi (ws : List Nat) (t t2 : List UInt8) (k : Nat) (h : EdiP ws t k) (h2 : Said 1 (ws.drop k) t2) : Said 5 ws (t ++ t2)
theorem Said.asc_inv {ws : List Nat} {t : List UInt8} (h : Said 1 ws t) : ∃ t1 t2 k m, Asc ws t1 k m ∧ Said m (ws.drop k) t2 ∧ t = t1 ++ t2 := by
  cases h with
  | asc ws t t2 k m h h2 => exact ⟨t, t2, k, m, h, h2, rfl⟩
theorem Said.c40_inv {ws : List Nat} {t : List UInt8} (h : Said 2 ws t) : ∃ t1 t2 k, C40P ws t1 k ∧ Said 1 (ws.drop k) t2 ∧ t = t1 ++ t2 := by
  cases h with
  | c40 ws t t2 k h h2 => exact ⟨t, t2, k, h, h2, rfl⟩
theorem Said.edi_inv {ws : List Nat} {t : List UInt8} (h : Said 5 ws t) : ∃ t1 t2 k, EdiP ws t1 k ∧ Said 1 (ws.drop k) t2 ∧ t = t1 ++ t2 := by
  cases h with
  | edi ws t t2 k h h2 => exact ⟨t, t2, k, h, h2, rfl⟩
theorem Said.mode {m : Nat} {ws : List Nat} {t : List UInt8} (h : Said m ws t) : m = 0 ∨ m = 1 ∨ m = 2 ∨ m = 5 := by
  cases h <;> simp
theorem dg2_of (a b : UInt8) (ha : isDg a = true) (hb : isDg b = true) : 10 * (a.toNat - 48) + (b.toNat - 48) < 100 ∧ dg2 (10 * (a.toNat - 48) + (b.toNat - 48)) = [a, b] := by
  simp only [isDg, Bool.and_eq_true, decide_eq_true_eq] at ha hb
  refine ⟨by omega, ?_⟩
  unfold dg2
  rw [show 48 + (10 * (a.toNat - 48) + (b.toNat - 48)) / 10 = a.toNat by omega, show 48 + (10 * (a.toNat - 48) + (b.toNat - 48)) % 10 = b.toNat by omega, ofNat_toNat8, ofNat_toNat8]
theorem asc_said (rest : List Nat) : ∀ (n : Nat) (t : List UInt8), t.length ≤ n → (∀ c ∈ t, c.toNat < 128) → Said 1 (ascW t ++ 129 :: rest) t
  | _, [], _, _ => by
    have := Said.asc (129 :: rest) [] [] 1 0 (Asc.pad rest) (Said.done _)
    simpa [ascW] using this
  | 0, a :: r, h, _ => by simp at h
  | n + 1, [a], h, hc => by
    have ih := asc_said rest n [] (Nat.zero_le _) (fun c hc => by cases hc)
    have h1 := hc a (List.mem_cons_self ..)
    have := Said.asc ((a.toNat + 1) :: 129 :: rest) [UInt8.ofNat (a.toNat + 1 - 1)] [] 1 1 (Asc.one _ _ (by omega) (by omega)) (by simpa [ascW] using ih)
    rw [Nat.add_sub_cancel, ofNat_toNat8] at this
    simpa [ascW] using this
  | n + 1, a :: b :: r, h, hc => by
    rw [List.length_cons, List.length_cons] at h
    unfold ascW
    split
    · rename_i hd
      rw [Bool.and_eq_true] at hd
      have ih := asc_said rest n r (by omega) (fun c hx => hc c (List.mem_cons_of_mem _ (List.mem_cons_of_mem _ hx)))
      obtain ⟨t1, t2, k, m, h1, h2, h3⟩ := ih.asc_inv
      obtain ⟨hlt, hdg⟩ := dg2_of a b hd.1 hd.2
      have h4 := Asc.two _ _ _ _ _ hlt h1
      rw [hdg] at h4
      have h5 := Said.asc _ _ t2 _ _ h4 (by simpa using h2)
      have e : a :: b :: r = [a, b] ++ t1 ++ t2 := by rw [h3]; simp
      rw [e, List.cons_append, show 130 + 10 * (a.toNat - 48) + (b.toNat - 48) = 130 + (10 * (a.toNat - 48) + (b.toNat - 48)) by omega]
      exact h5
    · have ih := asc_said rest n (b :: r) (by rw [List.length_cons]; omega) (fun c hx => hc c (List.mem_cons_of_mem _ hx))
      have h1 := hc a (List.mem_cons_self ..)
      have h4 := Said.asc ((a.toNat + 1) :: (ascW (b :: r) ++ 129 :: rest)) [UInt8.ofNat (a.toNat + 1 - 1)] (b :: r) 1 1 (Asc.one _ _ (by omega) (by omega)) (by simpa using ih)
      rw [Nat.add_sub_cancel, ofNat_toNat8] at h4
      exact h4
theorem ascW_len : ∀ (n : Nat) (t : List UInt8), t.length ≤ n → (ascW t).length ≤ t.length
  | _, [], _ => Nat.le_refl _
  | 0, a :: r, h => by simp at h
  | _ + 1, [a], _ => by simp [ascW]
  | n + 1, a :: b :: r, h => by
    rw [List.length_cons, List.length_cons] at h
    unfold ascW
    split
    · have := ascW_len n r (by omega)
      simp only [List.length_cons]; omega
    · have := ascW_len n (b :: r) (by rw [List.length_cons]; omega)
      simp only [List.length_cons] at this ⊢; omega
theorem ascW_lt : ∀ (n : Nat) (t : List UInt8), t.length ≤ n → (∀ c ∈ t, c.toNat < 128) → ∀ x ∈ ascW t, x < 256
  | _, [], _, _, _, hx => by cases hx
  | 0, a :: r, h, _, _, _ => by simp at h
  | _ + 1, [a], _, hc, x, hx => by
    have := hc a (List.mem_cons_self ..)
    simp [ascW] at hx; omega
  | n + 1, a :: b :: r, h, hc, x, hx => by
    rw [List.length_cons, List.length_cons] at h
    have ha := hc a (List.mem_cons_self ..)
    have hb := hc b (List.mem_cons_of_mem _ (List.mem_cons_self ..))
    unfold ascW at hx
    split at hx
    · rename_i hd
      simp only [isDg, Bool.and_eq_true, decide_eq_true_eq] at hd
      rcases List.mem_cons.1 hx with rfl | hx
      · omega
      · exact ascW_lt n r (by omega) (fun c hx => hc c (List.mem_cons_of_mem _ (List.mem_cons_of_mem _ hx))) x hx
    · rcases List.mem_cons.1 hx with rfl | hx
      · omega
      · exact ascW_lt n (b :: r) (by rw [List.length_cons]; omega) (fun c hx => hc c (List.mem_cons_of_mem _ hx)) x hx
end Go.Proofs.YtopfdmmimgnciaaGreatDoor
namespace Go.Proofs.YtopfdmmimgnciaaGreatDoor
open Go.RowKit

theorem ito_ba (x : ByteArray) (l : List UInt8) (h : x.data.toList = l) : x = ⟨l.toArray⟩ := by
  subst h
  cases x
  simp
set_option maxHeartbeats 2000000 in
set_option maxRecDepth 100000 in
theorem small_any (i : Nat) (h : i < 100) (w : World) : Calls Tryz.prog 127 #[.int .i64 i] w fun e w' => e = .returned (.string ⟨(Lib.decDigits i).toArray⟩) ∧ w' = w := by
  go_enter Tryz.func127, Tryz.ntmps127
  go_name_bytes_deep 45 SM hSM
  have eSM : SM = Lib.smalls := by rw [← hSM]; decide +kernel
  subst eSM
  clear hSM
  go_name_bytes_deep 30 DG hDG
  have eDG : DG = Lib.digits36 := by rw [← hDG]; decide +kernel
  subst eDG
  clear hDG
  by_cases h10 : i < 10
  · have hsl : ∀ w, (Instr.slice 9 (.string Lib.digits36) (some (.int .i64 (i : Int))) (some (.int .i64 ((i : Int) + 1))) none).run Tryz.prog w = .ok (.string (Lib.digits36.extract i (i + 1))) w := fun w => by
      rw [run_slice_string w 9 Lib.digits36 .i64 .i64 _ _ Tryz.underlying9 (by omega) (by omega) (by rw [Lib.digits36_size]; omega), show ((i : Int)).toNat = i by omega, show ((i : Int) + 1).toNat = i + 1 by omega]
    go_wp2
    go_ret
    refine ⟨?_, rfl⟩
    show Ending.returned (Value.string (Lib.digits36.extract i (i + 1))) = _
    rw [ito_ba (Lib.digits36.extract i (i + 1)) (Lib.decDigits i) (by rw [Lib.extract_data]; exact Lib.digits36_piece h10)]
  · have hsl : ∀ w, (Instr.slice 9 (.string Lib.smalls) (some (.int .i64 ((i : Int) * 2))) (some (.int .i64 ((i : Int) * 2 + 2))) none).run Tryz.prog w = .ok (.string (Lib.smalls.extract (i * 2) (i * 2 + 2))) w := fun w => by
      rw [run_slice_string w 9 Lib.smalls .i64 .i64 _ _ Tryz.underlying9 (by omega) (by omega) (by rw [Lib.smalls_size]; omega), show ((i : Int) * 2).toNat = i * 2 by omega, show ((i : Int) * 2 + 2).toNat = i * 2 + 2 by omega]
    go_wp2
    go_ret
    refine ⟨?_, rfl⟩
    show Ending.returned (Value.string (Lib.smalls.extract (i * 2) (i * 2 + 2))) = _
    rw [ito_ba (Lib.smalls.extract (i * 2) (i * 2 + 2)) (Lib.decDigits i) (by rw [Lib.extract_data]; exact Lib.smalls_piece h10 h)]
theorem decD_lo : ∀ d, d < 10 → Lib.decDigits d = [UInt8.ofNat (48 + d)] := by decide +kernel
theorem decD_hi : ∀ d, d < 100 → 10 ≤ d → Lib.decDigits d = [UInt8.ofNat (48 + d / 10), UInt8.ofNat (48 + d % 10)] := by decide +kernel
/-- What is appended behind the zero of a number below ten. -/
def itoL (d : Nat) : List UInt8 := if d < 10 then [UInt8.ofNat (48 + d)] else dg2 d
theorem itoL_lo (d : Nat) (h : d < 10) : [UInt8.ofNat 48] ++ itoL d = dg2 d := by
  unfold itoL dg2
  rw [if_pos h, show d / 10 = 0 by omega, show d % 10 = d by omega]; rfl
theorem itoL_hi (d : Nat) (h : ¬ d < 10) : itoL d = dg2 d := by
  unfold itoL; rw [if_neg h]
theorem itoL_len (d : Nat) : (itoL d).length ≤ 2 := by unfold itoL dg2; split <;> simp
set_option maxRecDepth 100000 in
theorem itoa_any (i : Nat) (h : i < 100) (w : World) : Calls Tryz.prog 53 #[.int .i64 i] w fun e w' => e = .returned (.string (ofL (itoL i))) ∧ w' = w := by
  have hd : (⟨(Lib.decDigits i).toArray⟩ : ByteArray) = ofL (itoL i) := by
    unfold ofL itoL
    split
    · rw [decD_lo i (by assumption)]
    · rw [decD_hi i h (by omega)]; rfl
  have h1 : ∀ w', Calls Tryz.prog 114 #[.int .i64 i, .int .i64 10] w' fun e w'' => e = .returned (.string (ofL (itoL i))) ∧ w'' = w' := fun w' => by
    go_enter Tryz.func114, Tryz.ntmps114
    go_wp2_with fail
    refine (small_any i h _).mono ?_
    rintro e w' ⟨rfl, rfl⟩
    rw [hd]
    go_wp2
    go_ret
    exact ⟨rfl, rfl⟩
  have h2 : ∀ w', Calls Tryz.prog 83 #[.int .i64 i] w' fun e w'' => e = .returned (.string (ofL (itoL i))) ∧ w'' = w' := fun w' => by
    go_enter Tryz.func83, Tryz.ntmps83
    go_wp2_with fail
    refine (h1 _).mono ?_
    rintro e w' ⟨rfl, rfl⟩
    go_wp2
    go_ret
    exact ⟨rfl, rfl⟩
  go_enter Tryz.func53, Tryz.ntmps53
  go_wp2_with fail
  refine (h2 _).mono ?_
  rintro e w' ⟨rfl, rfl⟩
  go_wp2
  go_ret
  exact ⟨rfl, rfl⟩
end Go.Proofs.YtopfdmmimgnciaaGreatDoor
