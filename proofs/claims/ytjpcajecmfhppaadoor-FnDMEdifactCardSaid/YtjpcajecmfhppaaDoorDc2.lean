/-
  PLAIN: scripts of C40 and EDIFACT say their text.
-/
import Derived.Test.YtjpcajecmfhppaaDoorDc1
namespace Go.Proofs.YtjpcajecmfhppaaDoor
open Go.RowKit

theorem tripW_cons (a b c : Nat) (r : List Nat) : tripW (a :: b :: c :: r) = ((1600 * a + 40 * b + c + 1) / 256) :: ((1600 * a + 40 * b + c + 1) % 256) :: tripW r := rfl
theorem tripW_len : ∀ (n : Nat) (vs : List Nat), vs.length ≤ n → vs.length % 3 = 0 → (tripW vs).length = 2 * (vs.length / 3)
  | _, [], _, _ => rfl
  | _, [a], _, h => by simp at h
  | _, [a, b], _, h => by simp at h
  | 0, a :: b :: c :: r, h, _ => by simp at h
  | n + 1, a :: b :: c :: r, h, h3 => by
    simp only [List.length_cons] at h h3
    have ih := tripW_len n r (by omega) (by omega)
    rw [tripW_cons]
    simp only [List.length_cons, ih]
    omega
theorem tripW_lt : ∀ (n : Nat) (vs : List Nat), vs.length ≤ n → (∀ v ∈ vs, v < 40) → ∀ x ∈ tripW vs, x < 256
  | _, [], _, _, _, hx => by cases hx
  | _, [a], _, _, _, hx => by cases hx
  | _, [a, b], _, _, _, hx => by cases hx
  | 0, a :: b :: c :: r, h, _, _, _ => by simp at h
  | n + 1, a :: b :: c :: r, h, hv, x, hx => by
    simp only [List.length_cons] at h
    have h1 := hv a (by simp)
    have h2 := hv b (by simp)
    have h3 := hv c (by simp)
    rw [tripW_cons] at hx
    rcases List.mem_cons.1 hx with rfl | hx
    · omega
    · rcases List.mem_cons.1 hx with rfl | hx
      · omega
      · exact tripW_lt n r (by omega) (fun v h => hv v (by simp [h])) x hx
/-- C40, then ASCII: what is said. -/
theorem c40_said (vs : List Nat) (t1 t2 : List UInt8) (rest : List Nat) (h3 : vs.length % 3 = 0) (hs : c40S 0 vs = some t1) (h2 : ∀ c ∈ t2, c.toNat < 128) :
    Said 1 (230 :: (tripW vs ++ 254 :: (ascW t2 ++ 129 :: rest))) (t1 ++ t2) := by
  have hl := tripW_len vs.length vs (Nat.le_refl _) h3
  have h := Said.c40 (tripW vs ++ 254 :: (ascW t2 ++ 129 :: rest)) t1 t2 _ ⟨vs, _, rfl, h3, hs, rfl, by simp; omega⟩ (by
    rw [← hl, ← List.drop_drop, List.drop_left]
    exact asc_said rest t2.length t2 (Nat.le_refl _) h2)
  exact Said.asc _ [] (t1 ++ t2) 1 2 (Asc.c40 _) h
/-! ### EDIFACT -/
theorem rev_ind {α : Type} {P : List α → Prop} (h0 : P []) (h1 : ∀ l x, P l → P (l ++ [x])) (l : List α) : P l := by
  have h := List.reverse_reverse l
  rw [← h]
  induction l.reverse with
  | nil => exact h0
  | cons x r ih => rw [List.reverse_cons]; exact h1 _ _ ih
/-- A number by its digits. -/
def numB (b : Nat) (l : List Nat) : Nat := l.foldl (fun a x => a * b + x) 0
theorem numB_snoc (b : Nat) (l : List Nat) (x : Nat) : numB b (l ++ [x]) = numB b l * b + x := by simp [numB]
theorem numB_at (b : Nat) (hb : 0 < b) (cs : List Nat) : (∀ x ∈ cs, x < b) → ∀ j (h : j < cs.length), numB b cs / b ^ (cs.length - 1 - j) % b = cs[j] := by
  induction cs using rev_ind with
  | h0 => intro _ j h; simp at h
  | h1 l x ih =>
    intro hc j h
    have hx : x < b := hc x (by simp)
    rw [numB_snoc]
    rw [List.length_append, List.length_singleton] at h ⊢
    by_cases hj : j < l.length
    · have e : l.length + 1 - 1 - j = 1 + (l.length - 1 - j) := by omega
      rw [e, Nat.pow_add, Nat.pow_one, ← Nat.div_div_eq_div_mul, Nat.mul_comm, Nat.mul_add_div hb, Nat.div_eq_of_lt hx, Nat.add_zero, ih (fun y hy => hc y (by simp [hy])) j hj, List.getElem_append_left hj]
    · obtain rfl : j = l.length := by omega
      have e : l.length + 1 - 1 - l.length = 0 := by omega
      rw [e, Nat.pow_zero, Nat.div_one, Nat.mul_comm, Nat.mul_add_mod, Nat.mod_eq_of_lt hx]
      simp
def sixStep (s : List Nat × Nat × Nat) (v : Nat) : List Nat × Nat × Nat :=
  if 8 ≤ s.2.2 + 6 then (s.1 ++ [(s.2.1 * 64 + v) / 2 ^ (s.2.2 - 2)], (s.2.1 * 64 + v) % 2 ^ (s.2.2 - 2), s.2.2 - 2) else (s.1, s.2.1 * 64 + v, s.2.2 + 6)
def sixF (cs : List Nat) : List Nat × Nat × Nat := cs.foldl sixStep ([], 0, 0)
theorem sixF_snoc (cs : List Nat) (v : Nat) : sixF (cs ++ [v]) = sixStep (sixF cs) v := by simp [sixF]
/-- The words of six bits each, the last one filled with zeros. -/
def sixW (cs : List Nat) : List Nat := if 0 < (sixF cs).2.2 then (sixF cs).1 ++ [(sixF cs).2.1 * 2 ^ (8 - (sixF cs).2.2)] else (sixF cs).1
structure SixI (cs : List Nat) (s : List Nat × Nat × Nat) : Prop where
  num : numB 256 s.1 * 2 ^ s.2.2 + s.2.1 = numB 64 cs
  len : 8 * s.1.length + s.2.2 = 6 * cs.length
  lt : s.2.1 < 2 ^ s.2.2
  n8 : s.2.2 < 8
  b : ∀ x ∈ s.1, x < 256
theorem six_inv (cs : List Nat) : (∀ x ∈ cs, x < 64) → SixI cs (sixF cs) := by
  induction cs using rev_ind with
  | h0 => intro _; exact ⟨rfl, rfl, by decide, by decide, fun x hx => by cases hx⟩
  | h1 l x ih =>
    intro hc
    have hx : x < 64 := hc x (by simp)
    have h := ih (fun y hy => hc y (by simp [hy]))
    rw [sixF_snoc]
    revert h
    generalize sixF l = s
    obtain ⟨o, b, n⟩ := s
    rintro ⟨h1, h2, h3, h4, h5⟩
    dsimp only at h1 h2 h3 h4 h5
    unfold sixStep
    dsimp only
    have hn : numB 64 (l ++ [x]) = numB 64 l * 64 + x := numB_snoc 64 l x
    have hll : (l ++ [x]).length = l.length + 1 := by simp
    by_cases h8 : 8 ≤ n + 6
    · rw [if_pos h8]
      have e : 2 ^ (n - 2) * 256 = 2 ^ n * 64 := by
        obtain ⟨k, rfl⟩ : ∃ k, n = k + 2 := ⟨n - 2, by omega⟩
        rw [Nat.add_sub_cancel, Nat.pow_add]; omega
      have hP : 0 < 2 ^ (n - 2) := Nat.two_pow_pos _
      have hy : b * 64 + x < 2 ^ (n - 2) * 256 := by omega
      refine ⟨?_, ?_, Nat.mod_lt _ hP, by dsimp only; omega, ?_⟩
      · dsimp only
        rw [numB_snoc, hn, ← h1]
        have hd := Nat.div_add_mod (b * 64 + x) (2 ^ (n - 2))
        generalize (b * 64 + x) / 2 ^ (n - 2) = q at *
        generalize (b * 64 + x) % 2 ^ (n - 2) = m at *
        generalize 2 ^ (n - 2) = P at *
        generalize 2 ^ n = Q at *
        generalize numB 256 o = N at *
        rw [Nat.add_mul, Nat.mul_assoc, Nat.mul_comm 256 P, e, ← Nat.mul_assoc, Nat.add_mul, Nat.mul_comm q P]
        omega
      · dsimp only
        rw [List.length_append, List.length_singleton, hll]; omega
      · intro y hy'
        rcases List.mem_append.1 hy' with h | h
        · exact h5 y h
        · rw [List.mem_singleton] at h
          subst h
          exact Nat.div_lt_of_lt_mul hy
    · rw [if_neg h8]
      refine ⟨?_, ?_, ?_, by dsimp only; omega, h5⟩
      · dsimp only
        rw [hn, ← h1, Nat.pow_add]
        generalize 2 ^ n = Q at *
        rw [← Nat.mul_assoc, Nat.add_mul]
        omega
      · dsimp only
        rw [hll]; omega
      · dsimp only
        rw [Nat.pow_add]
        omega
theorem sixW_facts (cs : List Nat) (hc : ∀ x ∈ cs, x < 64) : ∃ pad, pad < 8 ∧ numB 256 (sixW cs) = numB 64 cs * 2 ^ pad ∧ 8 * (sixW cs).length = 6 * cs.length + pad ∧ ∀ x ∈ sixW cs, x < 256 := by
  obtain ⟨h1, h2, h3, h4, h5⟩ := six_inv cs hc
  unfold sixW
  generalize sixF cs = s at *
  obtain ⟨o, b, n⟩ := s
  dsimp only at *
  by_cases h0 : 0 < n
  · rw [if_pos h0]
    have e : 2 ^ n * 2 ^ (8 - n) = 256 := by rw [← Nat.pow_add, show n + (8 - n) = 8 by omega]
    refine ⟨8 - n, by omega, ?_, by rw [List.length_append, List.length_singleton]; omega, ?_⟩
    · rw [numB_snoc, ← h1, Nat.add_mul, Nat.mul_assoc, e]
    · intro x hx
      rcases List.mem_append.1 hx with h | h
      · exact h5 x h
      · rw [List.mem_singleton] at h
        subst h
        have := Nat.mul_lt_mul_of_pos_right h3 (Nat.two_pow_pos (8 - n))
        rw [e] at this; exact this
  · obtain rfl : n = 0 := by omega
    rw [if_neg h0]
    refine ⟨0, by decide, ?_, by omega, h5⟩
    have : b = 0 := by simpa using h3
    subst this
    simpa using h1
theorem rb_num (W : List Nat) (hw : ∀ x ∈ W, x < 256) : ∀ i, i ≤ W.length → rb W 0 (8 * i) = numB 256 (W.take i)
  | 0, _ => by simp [rb, numB]
  | i + 1, h => by
    have ih := rb_num W hw i (by omega)
    have hg : W.getD i 0 = W[i]'(by omega) := by rw [List.getD, List.getElem?_eq_getElem (by omega)]; rfl
    have hb := rb_byte W i (by rw [hg]; exact hw _ (List.getElem_mem _))
    rw [show 8 * (i + 1) = 8 * i + 8 by omega, rb_add, ih, Nat.zero_add, hb, hg, List.take_succ_eq_append_getElem (by omega), numB_snoc]
theorem bit_left (W R : List Nat) (p : Nat) (h : p < 8 * W.length) : bitB (W ++ R) p = bitB W p := by
  unfold bitB
  rw [List.getD, List.getD, List.getElem?_append_left (by omega)]
theorem rb_left (W R : List Nat) (p : Nat) : ∀ n, p + n ≤ 8 * W.length → rb (W ++ R) p n = rb W p n
  | 0, _ => rfl
  | n + 1, h => by
    unfold rb
    rw [rb_left W R p n (by omega), bit_left W R _ (by omega)]
theorem bit_drop (bs : List Nat) (q p : Nat) : bitB (bs.drop q) p = bitB bs (8 * q + p) := by
  unfold bitB
  rw [List.getD, List.getD, List.getElem?_drop, show (8 * q + p) / 8 = q + p / 8 by omega, show (8 * q + p) % 8 = p % 8 by omega]
theorem rb_drop (bs : List Nat) (q p : Nat) : ∀ n, rb (bs.drop q) p n = rb bs (8 * q + p) n
  | 0 => rfl
  | n + 1 => by
    unfold rb
    rw [rb_drop bs q p n, bit_drop, Nat.add_assoc]
theorem six_rb (cs R : List Nat) (hc : ∀ x ∈ cs, x < 64) (j : Nat) (hj : j < cs.length) : rb (sixW cs ++ R) (6 * j) 6 = cs[j] := by
  obtain ⟨pad, hp, hn, hl, hw⟩ := sixW_facts cs hc
  rw [rb_left _ _ _ _ (by omega)]
  have h1 := rb_num (sixW cs) hw (sixW cs).length (Nat.le_refl _)
  rw [List.take_length, hn] at h1
  have h2 := rb_add (sixW cs) 0 (6 * j + 6) (8 * (sixW cs).length - (6 * j + 6))
  rw [show 6 * j + 6 + (8 * (sixW cs).length - (6 * j + 6)) = 8 * (sixW cs).length by omega, h1] at h2
  have h3 := rb_add (sixW cs) 0 (6 * j) 6
  have h4 := rb_lt (sixW cs) (0 + 6 * j) 6
  have h5 := rb_lt (sixW cs) (0 + (6 * j + 6)) (8 * (sixW cs).length - (6 * j + 6))
  have h6 := numB_at 64 (by decide) cs hc j hj
  rw [show 8 * (sixW cs).length - (6 * j + 6) = 6 * (cs.length - 1 - j) + pad by omega] at h2 h5
  rw [Nat.zero_add] at h3 h4
  have e64 : (64 : Nat) ^ (cs.length - 1 - j) = 2 ^ (6 * (cs.length - 1 - j)) := by rw [Nat.pow_mul]
  rw [e64] at h6
  generalize rb (sixW cs) (0 + (6 * j + 6)) (6 * (cs.length - 1 - j) + pad) = low at *
  have h7 : rb (sixW cs) 0 (6 * j + 6) = numB 64 cs / 2 ^ (6 * (cs.length - 1 - j)) := by
    have e1 : numB 64 cs * 2 ^ pad / 2 ^ (6 * (cs.length - 1 - j) + pad) = numB 64 cs / 2 ^ (6 * (cs.length - 1 - j)) := by
      rw [Nat.pow_add, Nat.mul_div_mul_right _ _ (Nat.two_pow_pos pad)]
    rw [← e1, h2, Nat.mul_comm (rb (sixW cs) 0 (6 * j + 6)), Nat.mul_add_div (Nat.two_pow_pos _), Nat.div_eq_of_lt h5] <;> rfl
  rw [← h7, h3] at h6
  rw [← h6, Nat.mul_comm (rb (sixW cs) 0 (6 * j)), show (2 : Nat) ^ 6 = 64 from rfl, Nat.mul_add_mod, Nat.mod_eq_of_lt h4]
/-- EDIFACT: what is said. -/
def ediC (t : List UInt8) : List Nat := t.map (fun c => c.toNat % 64) ++ [31]
theorem ediC_lt (t : List UInt8) : ∀ x ∈ ediC t, x < 64 := by
  intro x hx
  rcases List.mem_append.1 hx with h | h
  · obtain ⟨c, _, rfl⟩ := List.mem_map.1 h
    exact Nat.mod_lt _ (by decide)
  · rw [List.mem_singleton] at h; omega
theorem ediC_len (t : List UInt8) : (ediC t).length = t.length + 1 := by simp [ediC]
theorem edi_said (t : List UInt8) (rest : List Nat) (h : ∀ c ∈ t, 32 ≤ c.toNat ∧ c.toNat ≤ 94) (hr : 2 ≤ rest.length) :
    Said 1 (240 :: (sixW (ediC t) ++ 129 :: rest)) t := by
  obtain ⟨pad, hp, -, hl, -⟩ := sixW_facts _ (ediC_lt t)
  rw [ediC_len] at hl
  have hk : (sixW (ediC t)).length = (6 * t.length + 13) / 8 := by omega
  have hat : ∀ j (hj : j < t.length + 1), rb (sixW (ediC t) ++ 129 :: rest) (6 * j) 6 = (ediC t)[j]'(by rw [ediC_len]; exact hj) := fun j hj => six_rb _ _ (ediC_lt t) j (by rw [ediC_len]; exact hj)
  have h1 : EdiP (sixW (ediC t) ++ 129 :: rest) t (sixW (ediC t)).length := by
    refine ⟨fun j c hj => ?_, ?_, hk, by rw [List.length_append, List.length_cons]; omega⟩
    · have hjl : j < t.length := (List.getElem?_eq_some_iff.1 hj).1
      have hc : t[j] = c := (List.getElem?_eq_some_iff.1 hj).2
      have h2 := h c (by rw [← hc]; exact List.getElem_mem _)
      refine ⟨h2.1, h2.2, ?_⟩
      rw [hat j (by omega)]
      unfold ediC
      rw [List.getElem_append_left (by simpa using hjl), List.getElem_map, hc]
    · rw [hat t.length (by omega)]
      unfold ediC
      rw [List.getElem_append_right (by simp)]
      simp
  have h2 := Said.edi (sixW (ediC t) ++ 129 :: rest) t [] _ h1 (by
    rw [List.drop_left]
    have := asc_said rest 0 [] (Nat.le_refl _) (fun c hc => by cases hc)
    simpa [ascW] using this)
  rw [List.append_nil] at h2
  exact Said.asc _ [] t 1 5 (Asc.edi _) h2
end Go.Proofs.YtjpcajecmfhppaaDoor
