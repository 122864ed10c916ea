/-
  PLAIN: the placement of Data Matrix words: what is done to the modules, step by step, and that it goes well for the 30 sizes.
-/
import Derived.Test.YtknipefcihkofaaBase
namespace Go.Proofs.Ytknipefcihkofaa

/-- A place, behind both turns round the edges. -/
def rowA (rows : Nat) (row : Int) : Int := if row < 0 then row + rows else row
def colA (rows : Nat) (row col : Int) : Int := if row < 0 then col + (4 - (((rows + 4) % 8 : Nat) : Int)) else col
def rowB (rows cols : Nat) (row col : Int) : Int := if colA rows row col < 0 then rowA rows row + (4 - (((cols + 4) % 8 : Nat) : Int)) else rowA rows row
def colB (rows cols : Nat) (row col : Int) : Int := if colA rows row col < 0 then colA rows row col + cols else colA rows row col
/-- A module's number; none: it does not lie within. -/
def inAt (rows cols : Nat) (r c : Int) : Option Nat := if 0 ≤ r ∧ r < rows ∧ 0 ≤ c ∧ c < cols then some (r.toNat * cols + c.toNat) else none
def placeAt (rows cols : Nat) (row col : Int) : Option Nat := inAt rows cols (rowB rows cols row col) (colB rows cols row col)
theorem inAt_some {rows cols : Nat} {a b : Int} {i : Nat} (h : inAt rows cols a b = some i) : ∃ r c : Nat, r < rows ∧ c < cols ∧ i = r * cols + c ∧ (r : Int) = a ∧ (c : Int) = b := by
  unfold inAt at h
  split at h
  · rename_i hc
    injection h with h
    exact ⟨_, _, by omega, by omega, h.symm, Int.toNat_of_nonneg hc.1, Int.toNat_of_nonneg hc.2.2.1⟩
  · cases h
theorem placeAt_some {rows cols : Nat} {row col : Int} {i : Nat} (h : placeAt rows cols row col = some i) : ∃ r c : Nat, r < rows ∧ c < cols ∧ i = r * cols + c ∧ (r : Int) = rowB rows cols row col ∧ (c : Int) = colB rows cols row col := inAt_some h
theorem mul_lt {rows cols r c : Nat} (hr : r < rows) (hc : c < cols) : r * cols + c < rows * cols := by
  have e : (r + 1) * cols ≤ rows * cols := Nat.mul_le_mul_right _ (by omega)
  rw [Nat.add_mul] at e; omega
theorem placeAt_lt {rows cols : Nat} {row col : Int} {i : Nat} (h : placeAt rows cols row col = some i) : i < rows * cols := by
  obtain ⟨r, c, hr, hc, rfl, _, _⟩ := placeAt_some h
  exact mul_lt hr hc
section
variable {σ : Type} (has : σ → Nat → Bool) (set : σ → Nat → Nat → σ)
/-- Bits of a word are laid at places. -/
def putsG (rows cols word : Nat) : List (Int × Int) → Nat → σ → Option σ
  | [], _, s => some s
  | p :: t, bit, s => match placeAt rows cols p.1 p.2 with
    | none => none
    | some i => putsG rows cols word t (bit + 1) (set s i (8 * word + bit))
def utahL (row col : Int) : List (Int × Int) := [(row - 2, col - 2), (row - 2, col - 1), (row - 1, col - 2), (row - 1, col - 1), (row - 1, col), (row, col - 2), (row, col - 1), (row, col)]
def corn1 (rows cols : Nat) : List (Int × Int) := [((rows : Int) - 1, 0), ((rows : Int) - 1, 1), ((rows : Int) - 1, 2), (0, (cols : Int) - 2), (0, (cols : Int) - 1), (1, (cols : Int) - 1), (2, (cols : Int) - 1), (3, (cols : Int) - 1)]
def corn2 (rows cols : Nat) : List (Int × Int) := [((rows : Int) - 3, 0), ((rows : Int) - 2, 0), ((rows : Int) - 1, 0), (0, (cols : Int) - 4), (0, (cols : Int) - 3), (0, (cols : Int) - 2), (0, (cols : Int) - 1), (1, (cols : Int) - 1)]
def corn3 (rows cols : Nat) : List (Int × Int) := [((rows : Int) - 3, 0), ((rows : Int) - 2, 0), ((rows : Int) - 1, 0), (0, (cols : Int) - 2), (0, (cols : Int) - 1), (1, (cols : Int) - 1), (2, (cols : Int) - 1), (3, (cols : Int) - 1)]
def corn4 (rows cols : Nat) : List (Int × Int) := [((rows : Int) - 1, 0), ((rows : Int) - 1, (cols : Int) - 1), (0, (cols : Int) - 3), (0, (cols : Int) - 2), (0, (cols : Int) - 1), (1, (cols : Int) - 3), (1, (cols : Int) - 2), (1, (cols : Int) - 1)]
/-- A word is laid, if there is one. -/
def wordG (n rows cols : Nat) (l : List (Int × Int)) (s : Nat × σ) : Option (Nat × σ) :=
  if s.1 < n then match putsG set rows cols s.1 l 0 s.2 with
    | none => none
    | some t => some (s.1 + 1, t)
  else none
def condG (c : Bool) (n rows cols : Nat) (l : List (Int × Int)) (s : Nat × σ) : Option (Nat × σ) := if c then wordG set n rows cols l s else some s
def cornersG (n rows cols : Nat) (row col : Int) (s : Nat × σ) : Option (Nat × σ) :=
  (condG set (decide (row = rows) && decide (col = 0)) n rows cols (corn1 rows cols) s).bind fun s =>
  (condG set (decide (row = rows - 2) && decide (col = 0) && decide (cols % 4 ≠ 0)) n rows cols (corn2 rows cols) s).bind fun s =>
  (condG set (decide (row = rows - 2) && decide (col = 0) && decide (cols % 8 = 4)) n rows cols (corn3 rows cols) s).bind fun s =>
  condG set (decide (row = rows + 4) && decide (col = 2) && decide (cols % 8 = 0)) n rows cols (corn4 rows cols) s
/-- One place of a way upwards or downwards. -/
def spotG (inn : Bool) (n rows cols : Nat) (row col : Int) (s : Nat × σ) : Option (Nat × σ) :=
  if -8 ≤ row ∧ row ≤ 250 ∧ -8 ≤ col ∧ col ≤ 250 then
  if inn then
    if 0 ≤ row ∧ row < rows ∧ 0 ≤ col ∧ col < cols then (if has s.2 (row.toNat * cols + col.toNat) then some s else wordG set n rows cols (utahL row col) s) else none
  else some s
  else none
def upG (n rows cols : Nat) : Nat → Int → Int → Nat × σ → Option ((Int × Int) × (Nat × σ))
  | 0, _, _, _ => none
  | f + 1, row, col, s => match spotG has set (decide (row < rows) && decide (0 ≤ col)) n rows cols row col s with
    | none => none
    | some t => if 0 ≤ row - 2 ∧ col + 2 < cols then upG n rows cols f (row - 2) (col + 2) t else some ((row - 2, col + 2), t)
def downG (n rows cols : Nat) : Nat → Int → Int → Nat × σ → Option ((Int × Int) × (Nat × σ))
  | 0, _, _, _ => none
  | f + 1, row, col, s => match spotG has set (decide (0 ≤ row) && decide (col < cols)) n rows cols row col s with
    | none => none
    | some t => if row + 2 < rows ∧ 0 ≤ col - 2 then downG n rows cols f (row + 2) (col - 2) t else some ((row + 2, col - 2), t)
def sweepG (n rows cols : Nat) : Nat → Int → Int → Nat × σ → Option (Nat × σ)
  | 0, _, _, _ => none
  | f + 1, row, col, s => match cornersG set n rows cols row col s with
    | none => none
    | some s1 => match upG has set n rows cols (rows + cols) row col s1 with
      | none => none
      | some (p, s2) => match downG has set n rows cols (rows + cols) (p.1 + 1) (p.2 + 3) s2 with
        | none => none
        | some (q, s3) => if q.1 + 3 < rows ∨ q.2 + 1 < cols then sweepG n rows cols f (q.1 + 3) (q.2 + 1) s3 else some s3
end
/-- Each module: the number of its word and bit, or -1. -/
abbrev Mod := Nat → Int
def modHas (M : Mod) (i : Nat) : Bool := decide (0 ≤ M i)
def modSet (M : Mod) (i v : Nat) : Mod := fun j => if j = i then (v : Int) else M j
def mskHas (m : Nat) (i : Nat) : Bool := m.testBit i
def mskSet (m : Nat) (i _v : Nat) : Nat := m ||| 2 ^ i
end Go.Proofs.Ytknipefcihkofaa
