/-
  PLAIN: the placement goes well with modules, if it does with marks of modules.
-/
import Derived.Test.YtknipefcihkofaaDp1
namespace Go.Proofs.Ytknipefcihkofaa

/-- Modules and marks agree. -/
def Agree (N n : Nat) (M : Mod) (m : Nat) : Prop := (∀ i, i < N → modHas M i = m.testBit i) ∧ (∀ i, -1 ≤ M i ∧ M i < 8 * n)
section
variable {rows cols n : Nat}
theorem agree_set {N : Nat} {M : Mod} {m i v : Nat} (h : Agree N n M m) (hv : v < 8 * n) : Agree N n (modSet M i v) (mskSet m i v) := by
  refine ⟨fun j hj => ?_, fun j => ?_⟩
  · unfold modHas modSet mskSet
    rw [Nat.testBit_or, Nat.testBit_two_pow]
    by_cases hji : j = i
    · subst hji; simp
    · rw [if_neg hji]
      have := h.1 j hj
      unfold modHas at this
      rw [this]
      simp [Ne.symm hji]
  · unfold modSet
    split
    · omega
    · exact h.2 j
theorem puts_sim {word : Nat} (hw : word < n) : ∀ (l : List (Int × Int)) (bit : Nat) (M : Mod) (m m' : Nat), bit + l.length ≤ 8 → Agree (rows * cols) n M m → putsG mskSet rows cols word l bit m = some m' →
    ∃ M', putsG modSet rows cols word l bit M = some M' ∧ Agree (rows * cols) n M' m'
  | [], _, M, m, m', _, h, he => by injection he with he; subst he; exact ⟨M, rfl, h⟩
  | p :: t, bit, M, m, m', hb, h, he => by
    rw [putsG] at he ⊢
    rw [List.length_cons] at hb
    cases hp : placeAt rows cols p.1 p.2 with
    | none => rw [hp] at he; cases he
    | some i =>
      rw [hp] at he
      exact puts_sim hw t (bit + 1) _ _ _ (by omega) (agree_set h (by omega)) he
theorem word_sim {l : List (Int × Int)} (hl : l.length = 8) {w m w' m' : Nat} {M : Mod} (h : Agree (rows * cols) n M m) (he : wordG mskSet n rows cols l (w, m) = some (w', m')) : ∃ M', wordG modSet n rows cols l (w, M) = some (w', M') ∧ Agree (rows * cols) n M' m' := by
  unfold wordG at he ⊢
  simp only at he ⊢
  split at he
  · rename_i hw
    rw [if_pos hw]
    cases hp : putsG mskSet rows cols w l 0 m with
    | none => rw [hp] at he; cases he
    | some t =>
      rw [hp] at he
      injection he with he
      injection he with h1 h2
      obtain ⟨M', h3, h4⟩ := puts_sim hw l 0 M m t (by omega) h hp
      rw [h3]
      exact ⟨M', by rw [h1], by rw [← h2]; exact h4⟩
  · cases he
theorem cond_sim {c : Bool} {l : List (Int × Int)} (hl : l.length = 8) {w m w' m' : Nat} {M : Mod} (h : Agree (rows * cols) n M m) (he : condG mskSet c n rows cols l (w, m) = some (w', m')) : ∃ M', condG modSet c n rows cols l (w, M) = some (w', M') ∧ Agree (rows * cols) n M' m' := by
  unfold condG at he ⊢
  cases c
  · injection he with he
    injection he with h1 h2
    subst h1 h2
    exact ⟨M, rfl, h⟩
  · exact word_sim hl h he
theorem bind_some' {α β : Type} {x : Option α} {f : α → Option β} {b : β} (h : x.bind f = some b) : ∃ a, x = some a ∧ f a = some b := by
  cases x with
  | none => cases h
  | some a => exact ⟨a, rfl, h⟩
theorem corners_sim {row col : Int} {w m w' m' : Nat} {M : Mod} (h : Agree (rows * cols) n M m) (he : cornersG mskSet n rows cols row col (w, m) = some (w', m')) : ∃ M', cornersG modSet n rows cols row col (w, M) = some (w', M') ∧ Agree (rows * cols) n M' m' := by
  unfold cornersG at he ⊢
  obtain ⟨⟨w1, m1⟩, h1, he⟩ := bind_some' he
  obtain ⟨⟨w2, m2⟩, h2, he⟩ := bind_some' he
  obtain ⟨⟨w3, m3⟩, h3, he⟩ := bind_some' he
  obtain ⟨M1, g1, a1⟩ := cond_sim rfl h h1
  obtain ⟨M2, g2, a2⟩ := cond_sim rfl a1 h2
  obtain ⟨M3, g3, a3⟩ := cond_sim rfl a2 h3
  obtain ⟨M4, g4, a4⟩ := cond_sim rfl a3 he
  refine ⟨M4, ?_, a4⟩
  rw [g1, Option.bind_some, g2, Option.bind_some, g3, Option.bind_some, g4]
theorem spot_sim {inn : Bool} {row col : Int} {w m w' m' : Nat} {M : Mod} (h : Agree (rows * cols) n M m) (he : spotG mskHas mskSet inn n rows cols row col (w, m) = some (w', m')) : ∃ M', spotG modHas modSet inn n rows cols row col (w, M) = some (w', M') ∧ Agree (rows * cols) n M' m' := by
  unfold spotG at he ⊢
  split at he
  case isFalse => cases he
  rename_i hg
  rw [if_pos hg]
  cases inn
  · injection he with he
    injection he with h1 h2
    subst h1 h2
    exact ⟨M, rfl, h⟩
  · simp only [if_true] at he ⊢
    split at he
    · rename_i hc
      rw [if_pos hc]
      have e1 : row.toNat + 1 ≤ rows := by omega
      have e3 : (row.toNat + 1) * cols ≤ rows * cols := Nat.mul_le_mul_right _ e1
      rw [Nat.add_mul] at e3
      rw [h.1 _ (by omega)]
      unfold mskHas at he
      split at he
      · rename_i hb
        rw [if_pos hb]
        injection he with he
        injection he with h1 h2
        subst h1 h2
        exact ⟨M, rfl, h⟩
      · rename_i hb
        rw [if_neg hb]
        exact word_sim rfl h he
    · cases he
theorem up_sim : ∀ (f : Nat) (row col : Int) (w m : Nat) (M : Mod) (q : Int × Int) (w' m' : Nat), Agree (rows * cols) n M m → upG mskHas mskSet n rows cols f row col (w, m) = some (q, (w', m')) →
    ∃ M', upG modHas modSet n rows cols f row col (w, M) = some (q, (w', M')) ∧ Agree (rows * cols) n M' m'
  | 0, _, _, _, _, _, _, _, _, _, he => by cases he
  | f + 1, row, col, w, m, M, q, w', m', h, he => by
    rw [upG] at he ⊢
    cases hp : spotG mskHas mskSet (decide (row < rows) && decide (0 ≤ col)) n rows cols row col (w, m) with
    | none => rw [hp] at he; cases he
    | some t =>
      obtain ⟨w1, m1⟩ := t
      rw [hp] at he
      obtain ⟨M1, g1, a1⟩ := spot_sim h hp
      rw [g1]
      simp only at he ⊢
      split at he
      · rename_i hc
        rw [if_pos hc]
        exact up_sim f _ _ _ _ _ _ _ _ a1 he
      · rename_i hc
        rw [if_neg hc]
        injection he with he
        injection he with h1 h2
        injection h2 with h2 h3
        subst h1 h2 h3
        exact ⟨M1, rfl, a1⟩
theorem down_sim : ∀ (f : Nat) (row col : Int) (w m : Nat) (M : Mod) (q : Int × Int) (w' m' : Nat), Agree (rows * cols) n M m → downG mskHas mskSet n rows cols f row col (w, m) = some (q, (w', m')) →
    ∃ M', downG modHas modSet n rows cols f row col (w, M) = some (q, (w', M')) ∧ Agree (rows * cols) n M' m'
  | 0, _, _, _, _, _, _, _, _, _, he => by cases he
  | f + 1, row, col, w, m, M, q, w', m', h, he => by
    rw [downG] at he ⊢
    cases hp : spotG mskHas mskSet (decide (0 ≤ row) && decide (col < cols)) n rows cols row col (w, m) with
    | none => rw [hp] at he; cases he
    | some t =>
      obtain ⟨w1, m1⟩ := t
      rw [hp] at he
      obtain ⟨M1, g1, a1⟩ := spot_sim h hp
      rw [g1]
      simp only at he ⊢
      split at he
      · rename_i hc
        rw [if_pos hc]
        exact down_sim f _ _ _ _ _ _ _ _ a1 he
      · rename_i hc
        rw [if_neg hc]
        injection he with he
        injection he with h1 h2
        injection h2 with h2 h3
        subst h1 h2 h3
        exact ⟨M1, rfl, a1⟩
theorem sweep_sim : ∀ (f : Nat) (row col : Int) (w m : Nat) (M : Mod) (w' m' : Nat), Agree (rows * cols) n M m → sweepG mskHas mskSet n rows cols f row col (w, m) = some (w', m') →
    ∃ M', sweepG modHas modSet n rows cols f row col (w, M) = some (w', M') ∧ Agree (rows * cols) n M' m'
  | 0, _, _, _, _, _, _, _, _, he => by cases he
  | f + 1, row, col, w, m, M, w', m', h, he => by
    rw [sweepG] at he ⊢
    cases hp : cornersG mskSet n rows cols row col (w, m) with
    | none => rw [hp] at he; cases he
    | some t =>
      obtain ⟨w1, m1⟩ := t
      rw [hp] at he
      obtain ⟨M1, g1, a1⟩ := corners_sim h hp
      rw [g1]
      simp only at he ⊢
      cases hu : upG mskHas mskSet n rows cols (rows + cols) row col (w1, m1) with
      | none => rw [hu] at he; cases he
      | some t =>
        obtain ⟨q, w2, m2⟩ := t
        rw [hu] at he
        obtain ⟨M2, g2, a2⟩ := up_sim _ _ _ _ _ _ _ _ _ a1 hu
        rw [g2]
        simp only at he ⊢
        cases hd : downG mskHas mskSet n rows cols (rows + cols) (q.1 + 1) (q.2 + 3) (w2, m2) with
        | none => rw [hd] at he; cases he
        | some t =>
          obtain ⟨q2, w3, m3⟩ := t
          rw [hd] at he
          obtain ⟨M3, g3, a3⟩ := down_sim _ _ _ _ _ _ _ _ _ a2 hd
          rw [g3]
          simp only at he ⊢
          split at he
          · rename_i hc
            rw [if_pos hc]
            exact sweep_sim f _ _ _ _ _ _ _ a3 he
          · rename_i hc
            rw [if_neg hc]
            injection he with he
            injection he with h1 h2
            subst h1 h2
            exact ⟨M3, rfl, a3⟩
end
/-- The last two modules of the last two rows. -/
def cornM (rows cols : Nat) : Nat := 2 ^ ((rows - 1) * cols + (cols - 1)) ||| 2 ^ ((rows - 1) * cols + (cols - 2)) ||| 2 ^ ((rows - 2) * cols + (cols - 1)) ||| 2 ^ ((rows - 2) * cols + (cols - 2))
/-- All modules have words, but perhaps for those four. -/
def lastB (rows cols m : Nat) : Bool := m == 2 ^ (rows * cols) - 1 || ((m ||| cornM rows cols) == 2 ^ (rows * cols) - 1 && (m &&& cornM rows cols) == 0)
def goesB (rows cols n : Nat) : Bool := match sweepG mskHas mskSet n rows cols (rows + cols) 4 0 (0, 0) with
  | none => false
  | some s => lastB rows cols s.2
theorem goes_8 : goesB 8 8 8 = true := by decide +kernel
end Go.Proofs.Ytknipefcihkofaa
