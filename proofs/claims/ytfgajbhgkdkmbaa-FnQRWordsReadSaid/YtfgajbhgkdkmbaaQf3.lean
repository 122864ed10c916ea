/-
  WALKS: the table of formats; a format information is made; decoding of two copies.
-/
import Derived.Test.YtfgajbhgkdkmbaaQf2
namespace Go.Proofs.Ytfgajbhgkdkmbaa
open Go.RowKit

def fmtL : List Nat := [21522, 20773, 24188, 23371, 17913, 16590, 20375, 19104, 30660, 29427, 32170, 30877, 26159, 25368, 27713, 26998, 5769, 5054, 7399, 6608, 1890, 597, 3340, 2107, 13663, 12392, 16177, 14854, 9396, 8579, 11994, 11245]
theorem fmtL_at : ∀ k, k < 32 → fmtL.getD k 0 = fmtT k := by decide +kernel
/-- The world in which the first k rows of the table lie. -/
def lkW (w : World) : Nat → World
  | 0 => w
  | k + 1 => (lkW w k).alloc (.cells #[.int .u64 ((fmtL.getD k 0 : Nat) : Int), .int .u64 (k : Int)] 42)
theorem lkW_size (w : World) (k : Nat) : (lkW w k).heap.size = w.heap.size + k := by
  induction k with
  | zero => rfl
  | succ k ih => unfold lkW; simp [ih]; omega
theorem lkW_below (w : World) (k : Nat) : Below w.heap.size w (lkW w k) := by
  induction k with
  | zero => exact brf w
  | succ k ih => unfold lkW; exact bal ih _
theorem lkW_blk (w : World) (n k : Nat) (h : k < n) : Blk (lkW w n) (w.heap.size + k) 42 #[.int .u64 ((fmtL.getD k 0 : Nat) : Int), .int .u64 (k : Int)] := by
  induction n with
  | zero => omega
  | succ n ih =>
    unfold lkW
    by_cases hk : k < n
    · exact (ih hk).alloc _
    · obtain rfl : k = n := by omega
      exact Blk.fresh' (lkW_size w k)
def lkP (b : Nat) : List Value := (List.range 32).map fun k => Value.slice (some ⟨b + k, 0, none⟩) 2 2
/-- The table of formats lies in block g. -/
def LookAt (w : World) (g : Nat) : Prop := ∀ k, k < 32 → ∃ h, w.cell? ⟨g, k, none⟩ = some (.slice (some ⟨h, 0, none⟩) 2 2) ∧ w.cell? ⟨h, 0, none⟩ = some (.int .u64 ((fmtT k : Nat) : Int)) ∧ w.cell? ⟨h, 1, none⟩ = some (.int .u64 (k : Int))
theorem look_made (w : World) : LookAt ((lkW w 32).alloc (.cells (lkP w.heap.size).toArray 213)) (w.heap.size + 32) := by
  intro k hk
  have hb := Blk.fresh' (t := 213) (cs := (lkP w.heap.size).toArray) (lkW_size w 32)
  have hr := (lkW_blk w 32 k hk).alloc (.cells (lkP w.heap.size).toArray 213)
  refine ⟨w.heap.size + k, ?_, ?_, ?_⟩
  · rw [hb.cell, List.getElem?_toArray]; unfold lkP; rw [List.getElem?_map, List.getElem?_range hk]; rfl
  · rw [hr.cell, ← fmtL_at k hk]; rfl
  · rw [hr.cell]; rfl
set_option maxRecDepth 100000 in
set_option maxHeartbeats 2000000 in
theorem lookup_any (w : World) : Calls Try.prog 135 #[] w fun e w' => ∃ g, e = .returned (.slice (some ⟨g, 0, none⟩) 32 32) ∧ LookAt w' g ∧ Below w.heap.size w w' := by
  have h1 := look_made w
  have h2 := bal (lkW_below w 32) (.cells (lkP w.heap.size).toArray 213)
  have H := Lib.hid (And.intro h1 h2); clear h1 h2
  go_enter Try.func135, Try.ntmps135
  go_wp2
  go_ret
  exact ⟨w.heap.size + 32, rfl, H.out.1, H.out.2⟩
theorem forBits_any (n : Nat) (w : World) (hn : n < 4) : Calls Try.prog 143 #[.int .u64 n] w fun e w' => e = .returned (.tuple #[.int .i64 n, .nilIface]) ∧ w' = w := by
  have h : n = 0 ∨ n = 1 ∨ n = 2 ∨ n = 3 := by omega
  clear hn
  rcases h with h | h | h | h
  · subst h
    go_enter Try.func143, Try.ntmps143
    go_wp2
    go_ret2
    exact ⟨rfl, rfl⟩
  · subst h
    go_enter Try.func143, Try.ntmps143
    go_wp2
    go_ret2
    exact ⟨rfl, rfl⟩
  · subst h
    go_enter Try.func143, Try.ntmps143
    go_wp2
    go_ret2
    exact ⟨rfl, rfl⟩
  · subst h
    go_enter Try.func143, Try.ntmps143
    go_wp2
    go_ret2
    exact ⟨rfl, rfl⟩
theorem newFI_any (k : Nat) (w : World) (hk : k < 32) : Calls Try.prog 136 #[.int .u64 k] w fun e w' => ∃ p, e = .returned (.pointer (some ⟨p, 0, none⟩)) ∧ Blk w' p 135 #[.int .i64 ((k / 8 : Nat) : Int), .int .u8 ((k % 8 : Nat) : Int)] ∧ Below w.heap.size w w' := by
  have e1 : bits .and .u64 ((k : Int) / 8) 3 = ((k / 8 : Nat) : Int) := by
    have h := u64_and (k / 8) 3 (by omega) (by decide)
    rw [show k / 8 &&& 3 = k / 8 % 4 from Nat.and_two_pow_sub_one_eq_mod (k / 8) 2, Nat.mod_eq_of_lt (by omega)] at h
    exact h
  have e2 : bits .and .u64 (k : Int) 7 = ((k % 8 : Nat) : Int) := by
    have h := u64_and k 7 (by omega) (by decide)
    rw [show k &&& 7 = k % 8 from Nat.and_two_pow_sub_one_eq_mod k 3] at h
    exact h
  have h1 : k / 8 < 4 := by omega
  have h2 : k % 8 < 8 := by omega
  generalize k / 8 = a at *
  generalize k % 8 = b at *
  go_enter Try.func136, Try.ntmps136
  go_wp2_with fail
  refine (forBits_any a _ h1).mono ?_
  rintro e w ⟨rfl, rfl⟩
  go_wp2
  go_ret
  exact ⟨_, rfl, Blk.fresh w _ _, bal (brf w) _⟩
set_option maxRecDepth 100000 in
theorem ones_any (x : Nat) (w : World) (hx : x < 32768) : Calls Try.prog 134 #[.int .u64 x] w fun e w' => e = .returned (.int .i64 (pc x : Nat)) ∧ w' = w := by
  have h := oc_pc x hx
  go_enter Try.func134, Try.ntmps134
  go_wp2_with fail
  refine (ones64_any x w (by omega)).mono ?_
  rintro e w ⟨rfl, rfl⟩
  rw [h]
  go_wp2
  go_ret
  exact ⟨rfl, rfl⟩
theorem differing_any (a b : Nat) (w : World) (ha : a < 32768) (hb : b < 32768) : Calls Try.prog 115 #[.int .u64 a, .int .u64 b] w fun e w' => e = .returned (.int .i64 (pc (a ^^^ b) : Nat)) ∧ w' = w := by
  have hx := u64_xor a b (by omega) (by omega)
  have hl : a ^^^ b < 32768 := Nat.xor_lt_two_pow (n := 15) ha hb
  generalize a ^^^ b = y at *
  go_enter Try.func115, Try.ntmps115
  go_wp2_with fail
  refine (ones_any y w hl).mono ?_
  rintro e w ⟨rfl, rfl⟩
  go_wp2
  go_ret
  exact ⟨rfl, rfl⟩
end Go.Proofs.Ytfgajbhgkdkmbaa
