/-
  PLAIN: which modules of a QR symbol belong to patterns, told by intervals; how many do not; the way of the data.
-/
import Derived.Test.YtcldipbboidjbaaQp6
import Derived.Test.YtcldipbboidjbaaSh6
namespace Go.Proofs.Ytcldipbboidjbaa
open Go.RowKit

/-! ### Alignment patterns -/
def nearB (a x : Nat) : Bool := decide (a ≤ x + 2 ∧ x ≤ a + 2)
theorem farI_near (r c a b : Nat) : farI r c a b ≤ 2 ↔ (nearB a r = true ∧ nearB b c = true) := by
  unfold farI nearB; simp only [decide_eq_true_eq]; omega
theorem farI_pos (r c a b : Int) : 0 ≤ farI r c a b := by unfold farI; omega
theorem rowA_iff (cs : List Nat) (r c i : Nat) : ∀ K, (∃ v, rowA cs r c i K = some v) ↔ ∃ k, k < K ∧ skipA cs.length i k = false ∧ nearB (cs.getD i 0) r = true ∧ nearB (cs.getD k 0) c = true := by
  intro K
  induction K with
  | zero => constructor
            · rintro ⟨v, h⟩; cases h
            · rintro ⟨k, h, _⟩; omega
  | succ K ih =>
    rcases h : rowA cs r c i K with _ | v
    · rw [rowA_succ cs r c i K h]
      rw [h] at ih
      by_cases hc : skipA cs.length i K = false ∧ farI r c (cs.getD i 0 : Nat) (cs.getD K 0 : Nat) ≤ 2
      · rw [if_pos hc]
        exact ⟨fun _ => ⟨K, by omega, hc.1, (farI_near _ _ _ _).1 hc.2⟩, fun _ => ⟨_, rfl⟩⟩
      · rw [if_neg hc]
        constructor
        · rintro ⟨v, h⟩; cases h
        · rintro ⟨k, hk, h1, h2, h3⟩
          rcases Nat.lt_or_ge k K with hl | hl
          · obtain ⟨v, hv⟩ := ih.2 ⟨k, hl, h1, h2, h3⟩; cases hv
          · obtain rfl : k = K := by omega
            exact absurd ⟨h1, (farI_near _ _ _ _).2 ⟨h2, h3⟩⟩ hc
    · have h1 := rowA_keep cs r c i K 1 v h
      rw [h1]
      obtain ⟨k, hk, h2⟩ := ih.1 ⟨v, h⟩
      exact ⟨fun _ => ⟨k, by omega, h2⟩, fun _ => ⟨v, rfl⟩⟩
theorem rowA_pos (cs : List Nat) (r c i : Nat) : ∀ K v, rowA cs r c i K = some v → 0 ≤ v := by
  intro K
  induction K with
  | zero => intro v h; cases h
  | succ K ih =>
    intro v h
    rcases h1 : rowA cs r c i K with _ | u
    · rw [rowA_succ cs r c i K h1] at h
      split at h
      · injection h with h; rw [← h]; exact farI_pos _ _ _ _
      · cases h
    · rw [rowA_keep cs r c i K 1 u h1] at h
      injection h with h; rw [← h]; exact ih u h1
theorem allA_iff (cs : List Nat) (r c : Nat) : ∀ I, (∃ v, allA cs r c I = some v) ↔ ∃ i, i < I ∧ ∃ k, k < cs.length ∧ skipA cs.length i k = false ∧ nearB (cs.getD i 0) r = true ∧ nearB (cs.getD k 0) c = true := by
  intro I
  induction I with
  | zero => constructor
            · rintro ⟨v, h⟩; cases h
            · rintro ⟨k, h, _⟩; omega
  | succ I ih =>
    rcases h : allA cs r c I with _ | v
    · rw [allA_succ cs r c I h]
      rw [h] at ih
      by_cases hc : (cs.getD I 0 : Int) - 2 ≤ r ∧ (r : Int) ≤ (cs.getD I 0 : Int) + 2
      · rw [if_pos hc, rowA_iff]
        constructor
        · rintro ⟨k, h1, h2⟩; exact ⟨I, by omega, k, h1, h2⟩
        · rintro ⟨i, hi, k, h1, h2⟩
          rcases Nat.lt_or_ge i I with hl | hl
          · obtain ⟨v, hv⟩ := ih.2 ⟨i, hl, k, h1, h2⟩; cases hv
          · obtain rfl : i = I := by omega
            exact ⟨k, h1, h2⟩
      · rw [if_neg hc]
        constructor
        · rintro ⟨v, h⟩; cases h
        · rintro ⟨i, hi, k, h1, h2⟩
          rcases Nat.lt_or_ge i I with hl | hl
          · obtain ⟨v, hv⟩ := ih.2 ⟨i, hl, k, h1, h2⟩; cases hv
          · obtain rfl : i = I := by omega
            have h3 := h2.2.1
            unfold nearB at h3
            rw [decide_eq_true_eq] at h3
            omega
    · have h1 := allA_keep cs r c I 1 v h
      rw [h1]
      obtain ⟨k, hk, h2⟩ := ih.1 ⟨v, h⟩
      exact ⟨fun _ => ⟨k, by omega, h2⟩, fun _ => ⟨v, rfl⟩⟩
theorem allA_pos (cs : List Nat) (r c : Nat) : ∀ I v, allA cs r c I = some v → 0 ≤ v := by
  intro I
  induction I with
  | zero => intro v h; cases h
  | succ I ih =>
    intro v h
    rcases h1 : allA cs r c I with _ | u
    · rw [allA_succ cs r c I h1] at h
      split at h
      · exact rowA_pos _ _ _ _ _ _ h
      · cases h
    · rw [allA_keep cs r c I 1 u h1] at h
      injection h with h; rw [← h]; exact ih u h1
/-- A module stands in an alignment pattern. -/
def alP (cs : List Nat) (r c : Nat) : Prop := ∃ i, i < cs.length ∧ ∃ k, k < cs.length ∧ skipA cs.length i k = false ∧ nearB (cs.getD i 0) r = true ∧ nearB (cs.getD k 0) c = true
theorem align_iff (cs : List Nat) (r c : Nat) : 0 ≤ alignI cs r c ↔ alP cs r c := by
  unfold alP
  rw [← allA_iff]
  unfold alignI
  rcases h : allA cs r c cs.length with _ | v
  · constructor
    · intro h1; exact absurd h1 (by decide)
    · rintro ⟨v, hv⟩; cases hv
  · exact ⟨fun _ => ⟨v, rfl⟩, fun _ => allA_pos _ _ _ _ _ h⟩

/-! ### Columns as numbers -/
def ivl (lo len : Nat) : Nat := (2 ^ len - 1) * 2 ^ lo
theorem ivl_bit (lo len x : Nat) : (ivl lo len).testBit x = decide (lo ≤ x ∧ x < lo + len) := by
  unfold ivl
  rw [Nat.testBit_mul_two_pow, Nat.testBit_two_pow_sub_one, Bool.eq_iff_iff]
  simp only [Bool.and_eq_true, decide_eq_true_eq]
  omega
/-- The patterns of column c in row i of alignment patterns. -/
def alM (cs : List Nat) (c i : Nat) : Nat → Nat
  | 0 => 0
  | K + 1 => alM cs c i K ||| (if skipA cs.length i K = false ∧ nearB (cs.getD K 0) c = true then ivl (cs.getD i 0 - 2) 5 else 0)
def alN (cs : List Nat) (c : Nat) : Nat → Nat
  | 0 => 0
  | I + 1 => alN cs c I ||| alM cs c I cs.length
theorem alM_bit (cs : List Nat) (c i x : Nat) (h2 : 2 ≤ cs.getD i 0) : ∀ K, (alM cs c i K).testBit x = true ↔ ∃ k, k < K ∧ skipA cs.length i k = false ∧ nearB (cs.getD i 0) x = true ∧ nearB (cs.getD k 0) c = true := by
  intro K
  induction K with
  | zero => simp [alM]
  | succ K ih =>
    unfold alM
    rw [Nat.testBit_or, Bool.or_eq_true, ih]
    have hb : (ivl (cs.getD i 0 - 2) 5).testBit x = true ↔ nearB (cs.getD i 0) x = true := by
      rw [ivl_bit]; unfold nearB; simp only [decide_eq_true_eq]; omega
    constructor
    · rintro (⟨k, h, h1⟩ | h)
      · exact ⟨k, by omega, h1⟩
      · split at h
        · rename_i hc; exact ⟨K, by omega, hc.1, hb.1 h, hc.2⟩
        · simp at h
    · rintro ⟨k, h, h1, h3, h4⟩
      rcases Nat.lt_or_ge k K with hl | hl
      · exact .inl ⟨k, hl, h1, h3, h4⟩
      · obtain rfl : k = K := by omega
        right; rw [if_pos ⟨h1, h4⟩]; exact hb.2 h3
theorem alN_bit (cs : List Nat) (c x : Nat) (h2 : ∀ i, i < cs.length → 2 ≤ cs.getD i 0) : ∀ I, I ≤ cs.length → ((alN cs c I).testBit x = true ↔ ∃ i, i < I ∧ ∃ k, k < cs.length ∧ skipA cs.length i k = false ∧ nearB (cs.getD i 0) x = true ∧ nearB (cs.getD k 0) c = true) := by
  intro I
  induction I with
  | zero => intro _; simp [alN]
  | succ I ih =>
    intro hI
    unfold alN
    rw [Nat.testBit_or, Bool.or_eq_true, ih (by omega), alM_bit _ _ _ _ (h2 I hI)]
    constructor
    · rintro (⟨i, h, h1⟩ | h)
      · exact ⟨i, by omega, h1⟩
      · exact ⟨I, by omega, h⟩
    · rintro ⟨i, h, h1⟩
      rcases Nat.lt_or_ge i I with hl | hl
      · exact .inl ⟨i, hl, h1⟩
      · obtain rfl : i = I := by omega
        exact .inr h1
def colM (v c : Nat) : Nat :=
  (if c ≤ 8 then ivl 0 9 ||| ivl (17 + 4 * v - 8) 8 else 0) ||| ((if 17 + 4 * v ≤ c + 8 then ivl 0 9 else 0) ||| ((if c = 6 then ivl 0 (17 + 4 * v) else 0) ||| (ivl 6 1 ||| ((if 7 ≤ v ∧ 17 + 4 * v ≤ c + 11 then ivl 0 6 else 0) ||| ((if 7 ≤ v ∧ c ≤ 5 then ivl (17 + 4 * v - 11) 11 else 0) ||| alN (cenOf v) c (cenOf v).length)))))
theorem ite_bit (p : Prop) [Decidable p] (m x : Nat) : ((if p then m else 0).testBit x = true) ↔ (p ∧ m.testBit x = true) := by
  split
  · rename_i h; simp [h]
  · rename_i h; simp [h]
theorem colM_bit (v c r : Nat) (h2 : ∀ i, i < (cenOf v).length → 2 ≤ (cenOf v).getD i 0) (hr : r < 17 + 4 * v) : (colM v c).testBit r = givB v c r := by
  rw [Bool.eq_iff_iff]
  unfold colM givB givenB
  rw [decide_eq_true_eq]
  unfold givenP
  have ha := (alN_bit (cenOf v) c r h2 _ (Nat.le_refl _)).trans (align_iff (cenOf v) r c).symm
  simp only [Nat.testBit_or, Bool.or_eq_true, ite_bit, ivl_bit, decide_eq_true_eq, ha]
  omega

/-! ### How many -/
/-- How many of the first n have it. -/
def cntF (g : Nat → Bool) : Nat → Nat
  | 0 => 0
  | n + 1 => cntF g n + (g n).toNat
theorem cntF_front (g : Nat → Bool) : ∀ n, cntF g (n + 1) = (g 0).toNat + cntF (fun i => g (i + 1)) n
  | 0 => by simp [cntF]
  | n + 1 => by
    show cntF g (n + 1) + (g (n + 1)).toNat = _
    rw [cntF_front g n]
    show _ = (g 0).toNat + (cntF (fun i => g (i + 1)) n + (g (n + 1)).toNat)
    omega
theorem cntF_congr {f g : Nat → Bool} : ∀ n, (∀ i, i < n → f i = g i) → cntF f n = cntF g n
  | 0, _ => rfl
  | n + 1, h => by
    show cntF f n + (f n).toNat = cntF g n + (g n).toNat
    rw [cntF_congr n (fun i hi => h i (by omega)), h n (by omega)]
theorem cntF_rev (g : Nat → Bool) : ∀ n, cntF (fun i => g (n - 1 - i)) n = cntF g n
  | 0 => rfl
  | n + 1 => by
    rw [cntF_front]
    show (g (n + 1 - 1 - 0)).toNat + cntF (fun i => g (n + 1 - 1 - (i + 1))) n = cntF g n + (g n).toNat
    rw [cntF_congr (g := fun i => g (n - 1 - i)) n (fun i hi => by congr 1; omega), cntF_rev g n, show n + 1 - 1 - 0 = n by omega]
    omega
/-- How many of the first n bits are 0. -/
def cntZ : Nat → Nat → Nat
  | 0, _ => 0
  | n + 1, M => (1 - M % 2) + cntZ n (M / 2)
theorem cntZ_F : ∀ n M, cntZ n M = cntF (fun r => !M.testBit r) n
  | 0, _ => rfl
  | n + 1, M => by
    rw [cntF_front]
    show (1 - M % 2) + cntZ n (M / 2) = _
    rw [cntZ_F n (M / 2), cntF_congr (g := fun i => !M.testBit (i + 1)) n (fun i _ => by rw [Nat.testBit_succ]), Nat.testBit_zero]
    rcases Nat.mod_two_eq_zero_or_one M with h | h <;> rw [h] <;> rfl

/-! ### The way -/
/-- The right column of pair k. -/
def rgt (n k : Nat) : Nat := if 2 * k + 9 ≤ n then n - 1 - 2 * k else n - 2 - 2 * k
def rowW (n k i : Nat) : Nat := if k % 2 = 0 then n - 1 - i else i
/-- The module at place t of the way, row and column. -/
def plc (n t : Nat) : Nat × Nat := (rowW n (t / 2 / n) (t / 2 % n), rgt n (t / 2 / n) - t % 2)
theorem plc_at (n k i d : Nat) (hi : i < n) (hd : d < 2) : plc n ((k * n + i) * 2 + d) = (rowW n k i, rgt n k - d) := by
  unfold plc
  have h1 : ((k * n + i) * 2 + d) / 2 = k * n + i := by omega
  have h2 : ((k * n + i) * 2 + d) % 2 = d := by omega
  have h3 : (k * n + i) / n = k := by rw [Nat.mul_comm, Nat.mul_add_div (by omega), Nat.div_eq_of_lt hi, Nat.add_zero]
  have h4 : (k * n + i) % n = i := by rw [Nat.mul_comm, Nat.mul_add_mod, Nat.mod_eq_of_lt hi]
  rw [h1, h2, h3, h4]
/-- A module of the data. -/
def ngB (v : Nat) (p : Nat × Nat) : Bool := !givB v p.2 p.1
/-- The modules of the data up to place t. -/
def way (v t : Nat) : List (Nat × Nat) := ((List.range t).map (plc (17 + 4 * v))).filter (ngB v)
theorem way_succ (v t : Nat) : way v (t + 1) = way v t ++ (if ngB v (plc (17 + 4 * v) t) = true then [plc (17 + 4 * v) t] else []) := by
  unfold way
  rw [List.range_succ, List.map_append, List.filter_append]
  congr 1
  show List.filter (ngB v) [plc (17 + 4 * v) t] = _
  rw [List.filter_cons]
  rfl
/-- The whole way. -/
def wayE (v : Nat) : Nat := ((17 + 4 * v - 1) / 2 * (17 + 4 * v)) * 2
def wayL (v : Nat) : List (Nat × Nat) := way v (wayE v)
theorem way_len_succ (v t : Nat) : (way v (t + 1)).length = (way v t).length + (ngB v (plc (17 + 4 * v) t)).toNat := by
  rw [way_succ, List.length_append]
  cases ngB v (plc (17 + 4 * v) t) <;> rfl
theorem way_mono (v t s : Nat) : (way v t).length ≤ (way v (t + s)).length := by
  induction s with
  | zero => exact Nat.le_refl _
  | succ s ih => rw [← Nat.add_assoc, way_len_succ]; omega
theorem way_round (v k : Nat) : ∀ i, i ≤ 17 + 4 * v → (way v ((k * (17 + 4 * v) + i) * 2)).length = (way v (k * (17 + 4 * v) * 2)).length +
    (cntF (fun j => ngB v (rowW (17 + 4 * v) k j, rgt (17 + 4 * v) k)) i + cntF (fun j => ngB v (rowW (17 + 4 * v) k j, rgt (17 + 4 * v) k - 1)) i)
  | 0, _ => by simp [cntF]
  | i + 1, h => by
    have e : (k * (17 + 4 * v) + (i + 1)) * 2 = ((k * (17 + 4 * v) + i) * 2 + 0) + 1 + 1 := by omega
    have p0 := plc_at (17 + 4 * v) k i 0 (by omega) (by decide)
    have p1 := plc_at (17 + 4 * v) k i 1 (by omega) (by decide)
    rw [Nat.add_zero] at p0
    rw [e, way_len_succ, way_len_succ, Nat.add_zero, p0, p1, way_round v k i (by omega)]
    rw [Nat.sub_zero]
    show _ = _ + ((_ + (ngB v (rowW (17 + 4 * v) k i, rgt (17 + 4 * v) k)).toNat) + (_ + (ngB v (rowW (17 + 4 * v) k i, rgt (17 + 4 * v) k - 1)).toNat))
    omega
theorem cnt_row (v k c : Nat) : cntF (fun j => ngB v (rowW (17 + 4 * v) k j, c)) (17 + 4 * v) = cntF (fun r => !givB v c r) (17 + 4 * v) := by
  unfold rowW ngB
  by_cases h : k % 2 = 0
  · simp only [if_pos h]
    exact cntF_rev (fun r => !givB v c r) _
  · simp only [if_neg h]
theorem cnt_col (v c : Nat) (h2 : ∀ i, i < (cenOf v).length → 2 ≤ (cenOf v).getD i 0) : cntF (fun r => !givB v c r) (17 + 4 * v) = cntZ (17 + 4 * v) (colM v c) := by
  rw [cntZ_F]
  exact cntF_congr _ (fun r hr => by rw [colM_bit v c r h2 hr])
def sumK (v : Nat) : Nat → Nat
  | 0 => 0
  | k + 1 => sumK v k + (cntZ (17 + 4 * v) (colM v (rgt (17 + 4 * v) k)) + cntZ (17 + 4 * v) (colM v (rgt (17 + 4 * v) k - 1)))
theorem way_sum (v : Nat) (h2 : ∀ i, i < (cenOf v).length → 2 ≤ (cenOf v).getD i 0) : ∀ k, (way v (k * (17 + 4 * v) * 2)).length = sumK v k
  | 0 => by simp [way, sumK]
  | k + 1 => by
    have h := way_round v k (17 + 4 * v) (Nat.le_refl _)
    rw [cnt_row, cnt_row, cnt_col v _ h2, cnt_col v _ h2, way_sum v h2 k] at h
    rw [show (k + 1) * (17 + 4 * v) = k * (17 + 4 * v) + (17 + 4 * v) by rw [Nat.add_mul, Nat.one_mul], h]
    rfl
def cenGeB (v : Nat) : Bool := (List.range (cenOf v).length).all fun i => decide (2 ≤ (cenOf v).getD i 0)
set_option maxRecDepth 100000 in
theorem cenGe_all : ((List.range 40).all fun v => cenGeB (v + 1)) = true := by decide +kernel
theorem cenGe {v : Nat} (h1 : 1 ≤ v) (h40 : v ≤ 40) : ∀ i, i < (cenOf v).length → 2 ≤ (cenOf v).getD i 0 := fun i hi => by
  have h := List.all_eq_true.1 cenGe_all (v - 1) (List.mem_range.2 (by omega))
  rw [show v - 1 + 1 = v by omega] at h
  have h3 := List.all_eq_true.1 h i (List.mem_range.2 hi)
  exact of_decide_eq_true h3
def sumOkB (v : Nat) : Bool := Nat.beq (sumK v ((17 + 4 * v - 1) / 2) / 8) (totOf v)
set_option maxRecDepth 100000 in
theorem sumOk_all : ((List.range 40).all fun v => sumOkB (v + 1)) = true := by decide +kernel
/-- The way has as many modules as the words have bits, and less than 8 more. -/
theorem wayL_len {v : Nat} (h1 : 1 ≤ v) (h40 : v ≤ 40) : (wayL v).length / 8 = totOf v := by
  have h := List.all_eq_true.1 sumOk_all (v - 1) (List.mem_range.2 (by omega))
  rw [show v - 1 + 1 = v by omega] at h
  have h3 : sumK v ((17 + 4 * v - 1) / 2) / 8 = totOf v := Nat.eq_of_beq_eq_true h
  unfold wayL wayE
  rw [way_sum v (cenGe h1 h40)]
  exact h3
/-- Two places of the way are two modules. -/
theorem plc_inj {n t s m : Nat} (hn : n = 2 * m + 1) (h7 : 7 ≤ n) (ht : t < m * n * 2) (hs : s < m * n * 2) (h : plc n t = plc n s) : t = s := by
  unfold plc at h
  injection h with h1 h2
  have hi : t / 2 % n < n := Nat.mod_lt _ (by omega)
  have hj : s / 2 % n < n := Nat.mod_lt _ (by omega)
  have hk : t / 2 / n < m := Nat.div_lt_of_lt_mul (by rw [Nat.mul_comm]; omega)
  have hl : s / 2 / n < m := Nat.div_lt_of_lt_mul (by rw [Nat.mul_comm]; omega)
  have e1 := Nat.div_add_mod (t / 2) n
  have e2 := Nat.div_add_mod (s / 2) n
  generalize t / 2 % n = i at *
  generalize s / 2 % n = j at *
  generalize t / 2 / n = k at *
  generalize s / 2 / n = l at *
  have hkl : k = l ∧ t % 2 = s % 2 := by unfold rgt at h2; split at h2 <;> split at h2 <;> omega
  obtain ⟨rfl, hd⟩ := hkl
  have hij : i = j := by unfold rowW at h1; split at h1 <;> omega
  subst hij
  omega
end Go.Proofs.Ytcldipbboidjbaa
