/-
  PLAIN: words of Data Matrix in the modes ASCII, C40 and EDIFACT, and what they say.
-/
import Derived.Test.YtjpcajecmfhppaaDoorBs1
namespace Go.Proofs.YtjpcajecmfhppaaDoor
open Go.RowKit

def isDg (c : UInt8) : Bool := decide (48 ≤ c.toNat) && decide (c.toNat ≤ 57)
/-- Words of ASCII. -/
def ascW : List UInt8 → List Nat
  | [] => []
  | [a] => [a.toNat + 1]
  | a :: b :: r => if (isDg a && isDg b) = true then (130 + 10 * (a.toNat - 48) + (b.toNat - 48)) :: ascW r else (a.toNat + 1) :: ascW (b :: r)
/-- The two digits of a number below 100. -/
def dg2 (d : Nat) : List UInt8 := [UInt8.ofNat (48 + d / 10), UInt8.ofNat (48 + d % 10)]
/-- What a run of ASCII words says: the words that are left, the text, how many are taken, the mode behind it. -/
inductive Asc : List Nat → List UInt8 → Nat → Nat → Prop
  | one (c : Nat) (r : List Nat) (h1 : 1 ≤ c) (h2 : c ≤ 128) : Asc (c :: r) [UInt8.ofNat (c - 1)] 1 1
  | pad (r : List Nat) : Asc (129 :: r) [] 1 0
  | two (d : Nat) (r : List Nat) (t : List UInt8) (k m : Nat) (h : d < 100) (ha : Asc r t k m) : Asc ((130 + d) :: r) (dg2 d ++ t) (k + 1) m
  | c40 (r : List Nat) : Asc (230 :: r) [] 1 2
  | edi (r : List Nat) : Asc (240 :: r) [] 1 5
theorem Asc.pos {ws : List Nat} {t : List UInt8} {k m : Nat} (h : Asc ws t k m) : 1 ≤ k ∧ k ≤ ws.length ∧ t.length ≤ 2 * k ∧ (m = 0 ∨ m = 1 ∨ m = 2 ∨ m = 5) := by
  induction h with
  | one c r h1 h2 => simp
  | pad r => simp
  | two d r t k m h ha ih => simp [dg2]; omega
  | c40 r => simp
  | edi r => simp
/-! ### C40 -/
def bas (v : Nat) : Nat := if v = 3 then 32 else if v < 14 then v + 44 else v + 51
def sh2 (v : Nat) : Nat := if v < 15 then v + 33 else if v < 22 then v + 43 else v + 69
/-- What values say, from a shift on. -/
def c40S : Nat → List Nat → Option (List UInt8)
  | _, [] => some []
  | 0, v :: r => if v < 3 then c40S (v + 1) r else if v < 40 then (c40S 0 r).map (UInt8.ofNat (bas v) :: ·) else none
  | 1, v :: r => if v < 40 then (c40S 0 r).map (UInt8.ofNat v :: ·) else none
  | 2, v :: r => if v < 27 then (c40S 0 r).map (UInt8.ofNat (sh2 v) :: ·) else none
  | 3, v :: r => if v < 40 then (c40S 0 r).map (UInt8.ofNat (v + 96) :: ·) else none
  | _ + 4, _ :: _ => none
theorem c40S_lt : ∀ (vs : List Nat) (s : Nat) (t : List UInt8), c40S s vs = some t → ∀ v ∈ vs, v < 40
  | [], _, _, _, _, hv => by cases hv
  | x :: r, s, t, h, v, hv => by
    have step : ∀ (s' : Nat) (t' : List UInt8), c40S s' r = some t' → x < 40 → v < 40 := fun s' t' h' hx => by
      rcases List.mem_cons.1 hv with rfl | hv'
      · exact hx
      · exact c40S_lt r s' t' h' v hv'
    match s, h with
    | 0, h =>
      unfold c40S at h
      split at h
      · exact step _ _ h (by omega)
      · split at h
        · obtain ⟨t', h', -⟩ := Option.map_eq_some_iff.1 h
          exact step _ _ h' (by assumption)
        · cases h
    | 1, h =>
      unfold c40S at h
      split at h
      · obtain ⟨t', h', -⟩ := Option.map_eq_some_iff.1 h
        exact step _ _ h' (by assumption)
      · cases h
    | 2, h =>
      unfold c40S at h
      split at h
      · obtain ⟨t', h', -⟩ := Option.map_eq_some_iff.1 h
        exact step _ _ h' (by omega)
      · cases h
    | 3, h =>
      unfold c40S at h
      split at h
      · obtain ⟨t', h', -⟩ := Option.map_eq_some_iff.1 h
        exact step _ _ h' (by assumption)
      · cases h
    | s + 4, h => unfold c40S at h; cases h
/-- Two words for each three values. -/
def tripW : List Nat → List Nat
  | a :: b :: c :: r => ((1600 * a + 40 * b + c + 1) / 256) :: ((1600 * a + 40 * b + c + 1) % 256) :: tripW r
  | _ => []
/-- The values of a byte. -/
def c40V (n : Nat) : List Nat :=
  if n = 32 then [3] else if 48 ≤ n ∧ n ≤ 57 then [n - 44] else if n < 32 then [0, n] else if n ≤ 47 then [1, n - 33] else if n ≤ 64 then [1, n - 43] else if n ≤ 90 then [n - 51] else if n ≤ 95 then [1, n - 69] else [2, n - 96]
def c40L (t : List UInt8) : List Nat := t.flatMap fun c => c40V c.toNat
theorem c40V_all : ∀ n, n < 128 → (∃ v, c40V n = [v] ∧ 3 ≤ v ∧ v < 40 ∧ bas v = n) ∨ (c40V n = [0, n] ∧ n < 40) ∨ (∃ v, c40V n = [1, v] ∧ v < 27 ∧ sh2 v = n) ∨ (∃ v, c40V n = [2, v] ∧ v < 40 ∧ v + 96 = n) := by
  intro n hn
  unfold c40V
  split
  · subst n; exact .inl ⟨3, rfl, by decide, by decide, rfl⟩
  · split
    · refine .inl ⟨n - 44, rfl, by omega, by omega, ?_⟩
      unfold bas; rw [if_neg (by omega), if_pos (by omega)]; omega
    · split
      · exact .inr (.inl ⟨rfl, by omega⟩)
      · split
        · refine .inr (.inr (.inl ⟨n - 33, rfl, by omega, ?_⟩))
          unfold sh2; rw [if_pos (by omega)]; omega
        · split
          · refine .inr (.inr (.inl ⟨n - 43, rfl, by omega, ?_⟩))
            unfold sh2; rw [if_neg (by omega), if_pos (by omega)]; omega
          · split
            · refine .inl ⟨n - 51, rfl, by omega, by omega, ?_⟩
              unfold bas; rw [if_neg (by omega), if_neg (by omega)]; omega
            · split
              · refine .inr (.inr (.inl ⟨n - 69, rfl, by omega, ?_⟩))
                unfold sh2; rw [if_neg (by omega), if_neg (by omega)]; omega
              · exact .inr (.inr (.inr ⟨n - 96, rfl, by omega, by omega⟩))
theorem ofNat_toNat8 (c : UInt8) : UInt8.ofNat c.toNat = c := by simp
theorem c40S_one (c : UInt8) (hc : c.toNat < 128) (r : List Nat) : c40S 0 (c40V c.toNat ++ r) = (c40S 0 r).map (c :: ·) := by
  rcases c40V_all c.toNat hc with ⟨v, h, h1, h2, h3⟩ | ⟨h, h1⟩ | ⟨v, h, h1, h2⟩ | ⟨v, h, h1, h2⟩
  · rw [h]
    show c40S 0 (v :: r) = _
    rw [c40S, if_neg (by omega), if_pos h2, h3, ofNat_toNat8]
  · rw [h]
    show c40S 0 (0 :: c.toNat :: r) = _
    rw [c40S, if_pos (by decide)]
    show c40S 1 (c.toNat :: r) = _
    rw [c40S, if_pos h1, ofNat_toNat8]
  · rw [h]
    show c40S 0 (1 :: v :: r) = _
    rw [c40S, if_pos (by decide)]
    show c40S 2 (v :: r) = _
    rw [c40S, if_pos h1, h2, ofNat_toNat8]
  · rw [h]
    show c40S 0 (2 :: v :: r) = _
    rw [c40S, if_pos (by decide)]
    show c40S 3 (v :: r) = _
    rw [c40S, if_pos h1, h2, ofNat_toNat8]
theorem c40S_all : ∀ t : List UInt8, (∀ c ∈ t, c.toNat < 128) → c40S 0 (c40L t) = some t
  | [], _ => rfl
  | c :: t, h => by
    have ih := c40S_all t (fun x hx => h x (List.mem_cons_of_mem _ hx))
    show c40S 0 (c40V c.toNat ++ c40L t) = _
    rw [c40S_one c (h c (List.mem_cons_self ..)), ih]
    rfl
theorem c40L_snoc (t : List UInt8) (c : UInt8) : c40L (t ++ [c]) = c40L t ++ c40V c.toNat := by simp [c40L]
theorem c40L_app (a b : List UInt8) : c40L (a ++ b) = c40L a ++ c40L b := by simp [c40L]
theorem c40V_len (n : Nat) : 1 ≤ (c40V n).length ∧ (c40V n).length ≤ 2 := by
  unfold c40V
  split
  · simp
  · split
    · simp
    · split
      · simp
      · split
        · simp
        · split
          · simp
          · split
            · simp
            · split <;> simp
theorem c40L_len : ∀ t : List UInt8, t.length ≤ (c40L t).length ∧ (c40L t).length ≤ 2 * t.length
  | [] => ⟨Nat.le_refl _, Nat.le_refl _⟩
  | c :: t => by
    have ih := c40L_len t
    have h := c40V_len c.toNat
    have e : (c40L (c :: t)).length = (c40V c.toNat).length + (c40L t).length := by simp [c40L]
    rw [e, List.length_cons]
    omega
/-! ### What the words from a mode on say, up to the pad -/
/-- A segment of C40: threes of values, the unlatch, and more. -/
def C40P (ws : List Nat) (t : List UInt8) (k : Nat) : Prop := ∃ vs r, ws = tripW vs ++ 254 :: r ∧ vs.length % 3 = 0 ∧ c40S 0 vs = some t ∧ k = 2 * (vs.length / 3) + 1 ∧ 1 ≤ r.length
/-- A segment of EDIFACT: six bits a byte, the unlatch, and more. -/
def EdiP (ws : List Nat) (t : List UInt8) (k : Nat) : Prop :=
  (∀ (j : Nat) (c : UInt8), t[j]? = some c → 32 ≤ c.toNat ∧ c.toNat ≤ 94 ∧ rb ws (6 * j) 6 = c.toNat % 64) ∧ rb ws (6 * t.length) 6 = 31 ∧ k = (6 * t.length + 13) / 8 ∧ 6 * t.length + 30 ≤ 8 * ws.length
inductive Said : Nat → List Nat → List UInt8 → Prop
  | done (ws : List Nat) : Said 0 ws []
  | asc (ws : List Nat) (t t2 : List UInt8) (k m : Nat) (h : Asc ws t k m) (h2 : Said m (ws.drop k) t2) : Said 1 ws (t ++ t2)
  | c40 (ws : List Nat) (t t2 : List UInt8) (k : Nat) (h : C40P ws t k) (h2 : Said 1 (ws.drop k) t2) : Said 2 ws (t ++ t2)
  | edi (ws : List Nat) (t t2 : List UInt8) (k : Nat) (h : EdiP ws t k) (h2 : Said 1 (ws.drop k) t2) : Said 5 ws (t ++ t2)
theorem Said.asc_inv {ws : List Nat} {t : List UInt8} (h : Said 1 ws t) : ∃ t1 t2 k m, Asc ws t1 k m ∧ Said m (ws.drop k) t2 ∧ t = t1 ++ t2 := by
  cases h with
  | asc ws t t2 k m h h2 => exact ⟨t, t2, k, m, h, h2, rfl⟩
theorem Said.c40_inv {ws : List Nat} {t : List UInt8} (h : Said 2 ws t) : ∃ t1 t2 k, C40P ws t1 k ∧ Said 1 (ws.drop k) t2 ∧ t = t1 ++ t2 := by
  cases h with
  | c40 ws t t2 k h h2 => exact ⟨t, t2, k, h, h2, rfl⟩
theorem Said.edi_inv {ws : List Nat} {t : List UInt8} (h : Said 5 ws t) : ∃ t1 t2 k, EdiP ws t1 k ∧ Said 1 (ws.drop k) t2 ∧ t = t1 ++ t2 := by
  cases h with
  | edi ws t t2 k h h2 => exact ⟨t, t2, k, h, h2, rfl⟩
theorem Said.mode {m : Nat} {ws : List Nat} {t : List UInt8} (h : Said m ws t) : m = 0 ∨ m = 1 ∨ m = 2 ∨ m = 5 := by
  cases h <;> simp
theorem dg2_of (a b : UInt8) (ha : isDg a = true) (hb : isDg b = true) : 10 * (a.toNat - 48) + (b.toNat - 48) < 100 ∧ dg2 (10 * (a.toNat - 48) + (b.toNat - 48)) = [a, b] := by
  simp only [isDg, Bool.and_eq_true, decide_eq_true_eq] at ha hb
  refine ⟨by omega, ?_⟩
  unfold dg2
  rw [show 48 + (10 * (a.toNat - 48) + (b.toNat - 48)) / 10 = a.toNat by omega, show 48 + (10 * (a.toNat - 48) + (b.toNat - 48)) % 10 = b.toNat by omega, ofNat_toNat8, ofNat_toNat8]
theorem asc_said (rest : List Nat) : ∀ (n : Nat) (t : List UInt8), t.length ≤ n → (∀ c ∈ t, c.toNat < 128) → Said 1 (ascW t ++ 129 :: rest) t
  | _, [], _, _ => by
    have := Said.asc (129 :: rest) [] [] 1 0 (Asc.pad rest) (Said.done _)
    simpa [ascW] using this
  | 0, a :: r, h, _ => by simp at h
  | n + 1, [a], h, hc => by
    have ih := asc_said rest n [] (Nat.zero_le _) (fun c hc => by cases hc)
    have h1 := hc a (List.mem_cons_self ..)
    have := Said.asc ((a.toNat + 1) :: 129 :: rest) [UInt8.ofNat (a.toNat + 1 - 1)] [] 1 1 (Asc.one _ _ (by omega) (by omega)) (by simpa [ascW] using ih)
    rw [Nat.add_sub_cancel, ofNat_toNat8] at this
    simpa [ascW] using this
  | n + 1, a :: b :: r, h, hc => by
    rw [List.length_cons, List.length_cons] at h
    unfold ascW
    split
    · rename_i hd
      rw [Bool.and_eq_true] at hd
      have ih := asc_said rest n r (by omega) (fun c hx => hc c (List.mem_cons_of_mem _ (List.mem_cons_of_mem _ hx)))
      obtain ⟨t1, t2, k, m, h1, h2, h3⟩ := ih.asc_inv
      obtain ⟨hlt, hdg⟩ := dg2_of a b hd.1 hd.2
      have h4 := Asc.two _ _ _ _ _ hlt h1
      rw [hdg] at h4
      have h5 := Said.asc _ _ t2 _ _ h4 (by simpa using h2)
      have e : a :: b :: r = [a, b] ++ t1 ++ t2 := by rw [h3]; simp
      rw [e, List.cons_append, show 130 + 10 * (a.toNat - 48) + (b.toNat - 48) = 130 + (10 * (a.toNat - 48) + (b.toNat - 48)) by omega]
      exact h5
    · have ih := asc_said rest n (b :: r) (by rw [List.length_cons]; omega) (fun c hx => hc c (List.mem_cons_of_mem _ hx))
      have h1 := hc a (List.mem_cons_self ..)
      have h4 := Said.asc ((a.toNat + 1) :: (ascW (b :: r) ++ 129 :: rest)) [UInt8.ofNat (a.toNat + 1 - 1)] (b :: r) 1 1 (Asc.one _ _ (by omega) (by omega)) (by simpa using ih)
      rw [Nat.add_sub_cancel, ofNat_toNat8] at h4
      exact h4
theorem ascW_len : ∀ (n : Nat) (t : List UInt8), t.length ≤ n → (ascW t).length ≤ t.length
  | _, [], _ => Nat.le_refl _
  | 0, a :: r, h => by simp at h
  | _ + 1, [a], _ => by simp [ascW]
  | n + 1, a :: b :: r, h => by
    rw [List.length_cons, List.length_cons] at h
    unfold ascW
    split
    · have := ascW_len n r (by omega)
      simp only [List.length_cons]; omega
    · have := ascW_len n (b :: r) (by rw [List.length_cons]; omega)
      simp only [List.length_cons] at this ⊢; omega
theorem ascW_lt : ∀ (n : Nat) (t : List UInt8), t.length ≤ n → (∀ c ∈ t, c.toNat < 128) → ∀ x ∈ ascW t, x < 256
  | _, [], _, _, _, hx => by cases hx
  | 0, a :: r, h, _, _, _ => by simp at h
  | _ + 1, [a], _, hc, x, hx => by
    have := hc a (List.mem_cons_self ..)
    simp [ascW] at hx; omega
  | n + 1, a :: b :: r, h, hc, x, hx => by
    rw [List.length_cons, List.length_cons] at h
    have ha := hc a (List.mem_cons_self ..)
    have hb := hc b (List.mem_cons_of_mem _ (List.mem_cons_self ..))
    unfold ascW at hx
    split at hx
    · rename_i hd
      simp only [isDg, Bool.and_eq_true, decide_eq_true_eq] at hd
      rcases List.mem_cons.1 hx with rfl | hx
      · omega
      · exact ascW_lt n r (by omega) (fun c hx => hc c (List.mem_cons_of_mem _ (List.mem_cons_of_mem _ hx))) x hx
    · rcases List.mem_cons.1 hx with rfl | hx
      · omega
      · exact ascW_lt n (b :: r) (by rw [List.length_cons]; omega) (fun c hx => hc c (List.mem_cons_of_mem _ hx)) x hx
end Go.Proofs.YtjpcajecmfhppaaDoor
