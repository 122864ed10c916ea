/-
  PLAIN: the values of widths rise with the order of the lists.
-/
import Derived.Test.YtknipefcihkofaaRv2
namespace Go.Proofs.Ytknipefcihkofaa

def svCheck (most r m : Nat) : Bool := decide (0 ≤ sv most m r) && (!(r == 1) || !(decide (m ≤ most)) || decide (sv most m r = 1))
theorem sv_table : ((List.range 10).all fun most => (List.range 6).all fun r => r == 0 || most == 0 || (List.range 24).all fun m => decide (m < r) || decide (2 * most ≤ m - r) || svCheck most r m) = true := by decide +kernel
theorem sv_table2 : ((List.range 10).all fun most => (List.range 6).all fun r => r == 0 || most == 0 || (List.range 24).all fun m => decide (m < r) || decide (2 * most ≤ m - (r + 1)) || decide (sv most m (r + 1) = vin most m r (min most (m - r)))) = true := by decide +kernel
theorem sv_facts (most r m : Nat) (h1 : 1 ≤ most) (h9 : most ≤ 9) (hr : 1 ≤ r) (hr5 : r ≤ 5) (hm : r ≤ m) (ha : m - r < 2 * most) :
    0 ≤ sv most m r ∧ (r = 1 → m ≤ most → sv most m r = 1) := by
  have h := sv_table
  have h2 := List.all_eq_true.1 h most (List.mem_range.2 (by omega))
  have h3 := List.all_eq_true.1 h2 r (List.mem_range.2 (by omega))
  have e1 : (r == 0) = false := by rw [beq_eq_false_iff_ne]; omega
  have e2 : (most == 0) = false := by rw [beq_eq_false_iff_ne]; omega
  rw [e1, e2, Bool.false_or, Bool.false_or] at h3
  have h4 := List.all_eq_true.1 h3 m (List.mem_range.2 (by omega))
  rw [decide_eq_false (by omega : ¬ m < r), decide_eq_false (by omega : ¬ 2 * most ≤ m - r), Bool.false_or, Bool.false_or] at h4
  unfold svCheck at h4
  rw [Bool.and_eq_true, decide_eq_true_eq] at h4
  refine ⟨h4.1, fun h5 h6 => ?_⟩
  have h7 := h4.2
  rw [h5, decide_eq_true h6] at h7
  rw [h5]
  simpa using h7
theorem sv_next (most r m : Nat) (h1 : 1 ≤ most) (h9 : most ≤ 9) (hr : 1 ≤ r) (hr5 : r ≤ 5) (hm : r ≤ m) (ha : m - (r + 1) < 2 * most) : sv most m (r + 1) = vin most m r (min most (m - r)) := by
  have h := sv_table2
  have h2 := List.all_eq_true.1 h most (List.mem_range.2 (by omega))
  have h3 := List.all_eq_true.1 h2 r (List.mem_range.2 (by omega))
  have e1 : (r == 0) = false := by rw [beq_eq_false_iff_ne]; omega
  have e2 : (most == 0) = false := by rw [beq_eq_false_iff_ne]; omega
  rw [e1, e2, Bool.false_or, Bool.false_or] at h3
  have h4 := List.all_eq_true.1 h3 m (List.mem_range.2 (by omega))
  rw [decide_eq_false (by omega : ¬ m < r), decide_eq_false (by omega : ¬ 2 * most ≤ m - (r + 1)), Bool.false_or, Bool.false_or, decide_eq_true_eq] at h4
  exact h4
theorem vin_mono (most n r : Nat) : ∀ (j i : Nat), i ≤ j → (∀ v, 1 ≤ v → v ≤ j → 0 ≤ sv most (n - v) r) → vin most n r i ≤ vin most n r j
  | 0, i, h, _ => by obtain rfl : i = 0 := by omega
                     exact Int.le_refl _
  | j + 1, i, h, hs => by
    rcases Nat.lt_or_ge i (j + 1) with hi | hi
    · have h1 := vin_mono most n r j i (by omega) (fun v h1 h2 => hs v h1 (by omega))
      have h2 := hs (j + 1) (by omega) (Nat.le_refl _)
      show _ ≤ vin most n r j + sv most (n - (j + 1)) r
      omega
    · obtain rfl : i = j + 1 := by omega
      exact Int.le_refl _
theorem val_single (most n w : Nat) : val most n [w] = 0 := rfl
/-- The value of a list is less than the number of those with its sum. -/
theorem val_in (most : Nat) (h1 : 1 ≤ most) (h9 : most ≤ 9) : ∀ (l : List Nat), l ≠ [] → l.length ≤ 5 → (∀ x ∈ l, 1 ≤ x ∧ x ≤ most) → l.sum - l.length < 2 * most → 0 ≤ val most l.sum l ∧ val most l.sum l < sv most l.sum l.length
  | [], h, _, _, _ => absurd rfl h
  | [w], _, _, hw, ha => by
    have hw1 := hw w (by simp)
    rw [val_single]
    have hs : [w].sum = w := by simp
    rw [hs] at ha ⊢
    have := (sv_facts most 1 w h1 h9 (by omega) (by omega) hw1.1 (by simpa using ha)).2 rfl hw1.2
    show 0 ≤ (0 : Int) ∧ (0 : Int) < sv most w 1
    omega
  | w :: b :: rest, _, hl, hw, ha => by
    have hw1 := hw w (by simp)
    have hge := sum_ge (b :: rest) (fun x hx => (hw x (List.mem_cons_of_mem _ hx)).1)
    have hsum : (w :: b :: rest).sum = w + (b :: rest).sum := by simp
    have hlen : (w :: b :: rest).length = (b :: rest).length + 1 := rfl
    have hr1 : 1 ≤ (b :: rest).length := by simp
    have ih := val_in most h1 h9 (b :: rest) (by simp) (by rw [hlen] at hl; omega) (fun x hx => hw x (List.mem_cons_of_mem _ hx)) (by rw [hsum, hlen] at ha; omega)
    rw [val_cons _ _ _ _ (by simp), hsum, hlen]
    rw [hsum, hlen] at ha
    rw [hlen] at hl
    have e1 : w + (b :: rest).sum - w = (b :: rest).sum := by omega
    rw [e1]
    generalize (b :: rest).length = r at *
    generalize (b :: rest).sum = s at *
    generalize val most s (b :: rest) = z at *
    have hpos : ∀ v, 1 ≤ v → v ≤ min most (w + s - r) → 0 ≤ sv most (w + s - v) r := fun v hv1 hv2 => (sv_facts most r (w + s - v) h1 h9 (by omega) (by omega) (by omega) (by omega)).1
    have hm1 := vin_mono most (w + s) r (w - 1) 0 (by omega) (fun v hv1 hv2 => hpos v hv1 (by omega))
    have hm2 := vin_mono most (w + s) r (min most (w + s - r)) w (by omega) hpos
    have hst : vin most (w + s) r w = vin most (w + s) r (w - 1) + sv most (w + s - w) r := by
      obtain ⟨j, rfl⟩ : ∃ j, w = j + 1 := ⟨w - 1, by omega⟩
      rfl
    have e2 : w + s - w = s := by omega
    rw [e2] at hst
    have hT : sv most (w + s) (r + 1) = vin most (w + s) r (min most (w + s - r)) := sv_next most r (w + s) h1 h9 (by omega) (by omega) (by omega) ha
    rw [hT]
    have hz : vin most (w + s) r 0 = 0 := rfl
    omega
/-- The first difference of two lists. -/
def fd : List Nat → List Nat → Int
  | a :: x, b :: y => if a = b then fd x y else (a : Int) - (b : Int)
  | _, _ => 0
theorem fd_neg (x y : List Nat) : fd y x = - fd x y := by
  induction x generalizing y with
  | nil => cases y <;> rfl
  | cons a x ih =>
    cases y with
    | nil => rfl
    | cons b y =>
      unfold fd
      by_cases h : a = b
      · rw [if_pos h, if_pos h.symm, ih]
      · rw [if_neg h, if_neg (fun e => h e.symm)]; omega
theorem fd_eq (x y : List Nat) (hl : x.length = y.length) (h : fd x y = 0) : x = y := by
  induction x generalizing y with
  | nil => cases y with
    | nil => rfl
    | cons b y => simp at hl
  | cons a x ih =>
    cases y with
    | nil => simp at hl
    | cons b y =>
      unfold fd at h
      by_cases e : a = b
      · rw [if_pos e] at h
        rw [e, ih y (by simpa using hl) h]
      · rw [if_neg e] at h; omega
theorem val_lt (most : Nat) (h1 : 1 ≤ most) (h9 : most ≤ 9) : ∀ (x y : List Nat), x.length = y.length → x.length ≤ 6 → (∀ a ∈ x, 1 ≤ a ∧ a ≤ most) → (∀ a ∈ y, 1 ≤ a ∧ a ≤ most) → x.sum = y.sum → x.sum - x.length < 2 * most →
    fd x y < 0 → val most x.sum x < val most y.sum y
  | [], y, _, _, _, _, _, _, hf => by
    have h0 : fd [] y = 0 := by cases y <;> rfl
    rw [h0] at hf; exact absurd hf (by decide)
  | [a], y, hl, _, _, _, hs, _, hf => by
    match y, hl with
    | [b], _ =>
      have : a = b := by simpa using hs
      unfold fd at hf
      rw [if_pos this] at hf
      exact absurd hf (by decide)
  | a :: a2 :: x, y, hl, h6, hx, hy, hs, ha, hf => by
    match y, hl with
    | b :: b2 :: y, hl =>
      have hx1 := hx a (by simp)
      have hy1 := hy b (by simp)
      have hlx : (a :: a2 :: x).length = (a2 :: x).length + 1 := rfl
      have hll : (a2 :: x).length = (b2 :: y).length := by simpa using hl
      have hsx : (a :: a2 :: x).sum = a + (a2 :: x).sum := by simp
      have hsy : (b :: b2 :: y).sum = b + (b2 :: y).sum := by simp
      have hgx := sum_ge (a2 :: x) (fun z hz => (hx z (List.mem_cons_of_mem _ hz)).1)
      have hgy := sum_ge (b2 :: y) (fun z hz => (hy z (List.mem_cons_of_mem _ hz)).1)
      have hr1 : 1 ≤ (a2 :: x).length := by simp
      rw [hlx] at h6
      rw [hlx, hsx] at ha
      rw [hsx, hsy] at hs
      rw [val_cons most _ a (a2 :: x) (by simp), val_cons most _ b (b2 :: y) (by simp), hsx, hsy, ← hll]
      have e1 : a + (a2 :: x).sum - a = (a2 :: x).sum := by omega
      have e2 : b + (b2 :: y).sum - b = (b2 :: y).sum := by omega
      rw [e1, e2]
      have inx := val_in most h1 h9 (a2 :: x) (by simp) (by omega) (fun z hz => hx z (List.mem_cons_of_mem _ hz)) (by omega)
      have iny := val_in most h1 h9 (b2 :: y) (by simp) (by omega) (fun z hz => hy z (List.mem_cons_of_mem _ hz)) (by omega)
      unfold fd at hf
      by_cases e : a = b
      · rw [if_pos e] at hf
        subst e
        have ih := val_lt most h1 h9 (a2 :: x) (b2 :: y) hll (by omega) (fun z hz => hx z (List.mem_cons_of_mem _ hz)) (fun z hz => hy z (List.mem_cons_of_mem _ hz)) (by omega) (by omega) hf
        rw [hs]
        omega
      · rw [if_neg e] at hf
        generalize (a2 :: x).length = r at *
        generalize (a2 :: x).sum = s at *
        generalize (b2 :: y).sum = t at *
        have hpos : ∀ v, 1 ≤ v → v ≤ b - 1 → 0 ≤ sv most (a + s - v) r := fun v hv1 hv2 => (sv_facts most r (a + s - v) h1 h9 (by omega) (by omega) (by omega) (by omega)).1
        have hm := vin_mono most (a + s) r (b - 1) a (by omega) hpos
        have hst : vin most (a + s) r a = vin most (a + s) r (a - 1) + sv most (a + s - a) r := by
          obtain ⟨j, rfl⟩ : ∃ j, a = j + 1 := ⟨a - 1, by omega⟩
          rfl
        rw [e1] at hst
        rw [← hs]
        omega
end Go.Proofs.Ytknipefcihkofaa
