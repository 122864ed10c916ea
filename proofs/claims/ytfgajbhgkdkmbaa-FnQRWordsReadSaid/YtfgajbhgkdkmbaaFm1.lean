/-
  WALKS: BitMatrix.Flip; the eight masks; DataMaskValues; DataMask.UnmaskBitMatrix.
-/
import Derived.Test.YtfgajbhgkdkmbaaBm2
import Derived.Test.YtfgajbhgkdkmbaaQp7
import Derived.Test.YtfgajbhgkdkmbaaOc
import Derived.Test.YtfgajbhgkdkmbaaRo3
import Derived.Test.YtfgajbhgkdkmbaaFrm
namespace Go.Proofs.Ytfgajbhgkdkmbaa
open Go.RowKit

/-- The words in which that bit is turned. -/
def flipM (ws : List Nat) (rs x y : Nat) : List Nat := ws.set (y * rs + x / 32) (ws.getD (y * rs + x / 32) 0 ^^^ 2 ^ (x % 32))
theorem flipM_len (ws : List Nat) (rs x y : Nat) : (flipM ws rs x y).length = ws.length := by simp [flipM]
theorem flipM_lt {ws : List Nat} {rs x y : Nat} (h : ∀ v ∈ ws, v < 4294967296) : ∀ v ∈ flipM ws rs x y, v < 4294967296 := by
  intro v hv
  rcases List.mem_or_eq_of_mem_set hv with hv | hv
  · exact h v hv
  · rw [hv]
    have h1 : ws.getD (y * rs + x / 32) 0 < 2 ^ 32 := by
      rw [List.getD]
      rcases Nat.lt_or_ge (y * rs + x / 32) ws.length with hl | hl
      · rw [List.getElem?_eq_getElem hl]; exact h _ (List.getElem_mem hl)
      · rw [List.getElem?_eq_none hl]; decide
    exact Nat.xor_lt_two_pow h1 (Nat.pow_lt_pow_right (n := 32) (by decide) (Nat.mod_lt _ (by decide)))
theorem flipM_bit (ws : List Nat) (rs x y a b H : Nat) (hn : ws.length = rs * H) (hx : x / 32 < rs) (hy : y < H) (ha : a / 32 < rs) : bitM (flipM ws rs x y) rs a b = (bitM ws rs a b != (decide (a = x) && decide (b = y))) := by
  unfold bitM flipM
  by_cases h : y * rs + x / 32 = b * rs + a / 32
  · obtain ⟨h1, h2⟩ := place_inj hx ha h
    have hp := place_lt hx hy
    rw [List.getD, ← h, List.getElem?_set_self (by omega), Option.getD_some, Nat.testBit_xor, Nat.testBit_two_pow]
    have e : decide (x % 32 = a % 32) = (decide (a = x) && decide (b = y)) := by rw [Bool.eq_iff_iff]; simp; omega
    rw [e]
  · rw [List.getD, List.getElem?_set_ne h, List.getD]
    have : (decide (a = x) && decide (b = y)) = false := by
      rw [Bool.and_eq_false_iff, decide_eq_false_iff_not, decide_eq_false_iff_not]
      by_cases h1 : a = x
      · right; intro h2; subst h1 h2; exact h rfl
      · exact .inl h1
    rw [this]; simp
theorem u32_xor (a b : Nat) (ha : a < 4294967296) (hb : b < 4294967296) : bits .xor .u32 (a : Int) (b : Int) = ((a ^^^ b : Nat) : Int) := by
  have hx : a ^^^ b < 2 ^ 32 := Nat.xor_lt_two_pow (by omega) (by omega)
  show IntKind.u32.wrap ((BitVec.ofInt 32 (a : Int) ^^^ BitVec.ofInt 32 (b : Int)).toNat : Int) = _
  have h1 : ∀ c : Nat, c < 4294967296 → (BitVec.ofInt 32 (c : Int)).toNat = c := fun c hc => by
    rw [BitVec.ofInt_natCast, BitVec.toNat_ofNat]; exact Nat.mod_eq_of_lt (by omega)
  rw [BitVec.toNat_xor, h1 a ha, h1 b hb, IntKind.wrap_u32]
  omega
theorem matFlip_any (p g W H x y : Nat) (f : Nat → Nat → Bool) (w : World) (h : MatAt w p g W H f) (hx : x < W) (hy : y < H) (hW : W ≤ 4096) (hH : H ≤ 4096) :
    Calls Try.prog 131 #[.pointer (some ⟨p, 0, none⟩), .int .i64 x, .int .i64 y] w fun e w' => ∃ i u, e = .returned (.tuple #[]) ∧ w' = w.setCell ⟨g, i, none⟩ u ∧
      MatAt w' p g W H (fun a b => f a b != (decide (a = x) && decide (b = y))) := by
  obtain ⟨ws, h, hf⟩ := h
  have hr : x / 32 < (W + 31) / 32 := by omega
  have hpl := place_lt hr hy
  rw [← h.len] at hpl
  have c0 : w.cell? ⟨p, 2, none⟩ = some (.int .i64 ((W + 31) / 32 : Nat)) := by rw [h.head.cell]; rfl
  have c1 : w.cell? ⟨p, 3, none⟩ = some (.slice (some ⟨g, 0, none⟩) ws.length ws.length) := by rw [h.head.cell]; rfl
  have c4 : w.cell? ⟨g, y * ((W + 31) / 32) + x / 32, none⟩ = some (.int .u32 ((ws[y * ((W + 31) / 32) + x / 32] : Nat) : Int)) := by rw [h.rows.cell, wv_at _ _ hpl]
  have f4 := h.rows.frozen (y * ((W + 31) / 32) + x / 32)
  have hv := h.lt _ (List.getElem_mem hpl)
  have hlen : ws.length ≤ 129 * 4096 := by rw [h.len]; exact Nat.mul_le_mul (by omega) hH
  have hg0 : ws.getD (y * ((W + 31) / 32) + x / 32) 0 = ws[y * ((W + 31) / 32) + x / 32] := by rw [List.getD, List.getElem?_eq_getElem hpl]; rfl
  have hM : MatAt (w.setCell ⟨g, y * ((W + 31) / 32) + x / 32, none⟩ (.int .u32 ((ws[y * ((W + 31) / 32) + x / 32] ^^^ 2 ^ (x % 32) : Nat) : Int))) p g W H (fun a b => f a b != (decide (a = x) && decide (b = y))) := by
    refine ⟨flipM ws ((W + 31) / 32) x y, ⟨by rw [flipM_len]; exact h.head.far h.apart _, ?_, flipM_lt h.lt, by rw [flipM_len]; exact h.len, h.apart⟩, fun a b ha hb => ?_⟩
    · unfold flipM
      rw [← wv_set, hg0]
      exact h.rows.put _ _
    · rw [flipM_bit ws _ x y a b H h.len hr hy (by omega), hf a b ha hb]
  have HM := Lib.hid hM
  clear hM hg0 h hf
  generalize ws[y * ((W + 31) / 32) + x / 32] = v at *
  generalize ws.length = n at *
  have hrs : (W + 31) / 32 ≤ 129 := by omega
  generalize (W + 31) / 32 = rs at *
  have e1 : (y : Int) * (rs : Int) = ((y * rs : Nat) : Int) := by simp
  generalize y * rs = m at *
  have e2 : bits .xor .u32 (v : Int) ((2 : Int) ^ (x % 32) % 4294967296) = ((v ^^^ 2 ^ (x % 32) : Nat) : Int) := by
    rw [pow32 _ (Nat.mod_lt _ (by decide))]
    exact u32_xor _ _ hv (Nat.pow_lt_pow_right (n := 32) (by decide) (Nat.mod_lt _ (by decide)))
  generalize (v ^^^ 2 ^ (x % 32)) = z at *
  go_enter Try.func131, Try.ntmps131
  go_wp2
  refine bodyPost_end (results_none rfl _ _ _) rfl ?_
  exact ⟨_, _, rfl, rfl, HM.out⟩
theorem and_one' (y : Nat) (hy : y < 9223372036854775808) : bits .and .i64 (y : Int) 1 = ((y % 2 : Nat) : Int) := by
  have h := i64_and y 1 hy (by decide)
  rw [Nat.and_one_is_mod] at h
  exact h
theorem dm_0 (x y : Nat) (w : World) (hx : x ≤ 176) (hy : y ≤ 176) : Calls Try.prog 123 #[.int .i64 y, .int .i64 x] w fun e w' => e = .returned (.bool (maskB 0 x y)) ∧ w' = w := by
  obtain ⟨p, hp⟩ : ∃ p, p = x * y := ⟨_, rfl⟩
  have hple : x * y ≤ 176 * 176 := Nat.mul_le_mul hx hy
  have hpi : (y : Int) * (x : Int) = (p : Int) := by rw [hp, Nat.mul_comm]; simp
  rw [← hp] at hple
  have HQ := Lib.hid hp.symm
  clear hp
  have a0 : bits .and .i64 ((y : Int) + (x : Int)) 1 = (((y + x) % 2 : Nat) : Int) := by rw [← Int.natCast_add]; exact and_one' (y + x) (by omega)
  have a1 : bits .and .i64 (y : Int) 1 = ((y % 2 : Nat) : Int) := and_one' y (by omega)
  have a2 : bits .and .i64 ((y : Int) / 2 + (x : Int) / 3) 1 = (((y / 2 + x / 3) % 2 : Nat) : Int) := and_one' (y / 2 + x / 3) (by omega)
  have a3 : bits .and .i64 ((y : Int) + (x : Int) + (p : Int) % 3) 1 = (((y + x + p % 3) % 2 : Nat) : Int) := and_one' (y + x + p % 3) (by omega)
  go_enter Try.func123, Try.ntmps123
  go_wp2_with fail
  go_ret
  exact ⟨ret_bool (by rw [Bool.eq_iff_iff]; simp only [maskB, HQ.out]; simp; omega), rfl⟩
theorem dm_1 (x y : Nat) (w : World) (hx : x ≤ 176) (hy : y ≤ 176) : Calls Try.prog 124 #[.int .i64 y, .int .i64 x] w fun e w' => e = .returned (.bool (maskB 1 x y)) ∧ w' = w := by
  obtain ⟨p, hp⟩ : ∃ p, p = x * y := ⟨_, rfl⟩
  have hple : x * y ≤ 176 * 176 := Nat.mul_le_mul hx hy
  have hpi : (y : Int) * (x : Int) = (p : Int) := by rw [hp, Nat.mul_comm]; simp
  rw [← hp] at hple
  have HQ := Lib.hid hp.symm
  clear hp
  have a0 : bits .and .i64 ((y : Int) + (x : Int)) 1 = (((y + x) % 2 : Nat) : Int) := by rw [← Int.natCast_add]; exact and_one' (y + x) (by omega)
  have a1 : bits .and .i64 (y : Int) 1 = ((y % 2 : Nat) : Int) := and_one' y (by omega)
  have a2 : bits .and .i64 ((y : Int) / 2 + (x : Int) / 3) 1 = (((y / 2 + x / 3) % 2 : Nat) : Int) := and_one' (y / 2 + x / 3) (by omega)
  have a3 : bits .and .i64 ((y : Int) + (x : Int) + (p : Int) % 3) 1 = (((y + x + p % 3) % 2 : Nat) : Int) := and_one' (y + x + p % 3) (by omega)
  go_enter Try.func124, Try.ntmps124
  go_wp2_with fail
  go_ret
  exact ⟨ret_bool (by rw [Bool.eq_iff_iff]; simp only [maskB, HQ.out]; simp; omega), rfl⟩
theorem dm_2 (x y : Nat) (w : World) (hx : x ≤ 176) (hy : y ≤ 176) : Calls Try.prog 125 #[.int .i64 y, .int .i64 x] w fun e w' => e = .returned (.bool (maskB 2 x y)) ∧ w' = w := by
  obtain ⟨p, hp⟩ : ∃ p, p = x * y := ⟨_, rfl⟩
  have hple : x * y ≤ 176 * 176 := Nat.mul_le_mul hx hy
  have hpi : (y : Int) * (x : Int) = (p : Int) := by rw [hp, Nat.mul_comm]; simp
  rw [← hp] at hple
  have HQ := Lib.hid hp.symm
  clear hp
  have a0 : bits .and .i64 ((y : Int) + (x : Int)) 1 = (((y + x) % 2 : Nat) : Int) := by rw [← Int.natCast_add]; exact and_one' (y + x) (by omega)
  have a1 : bits .and .i64 (y : Int) 1 = ((y % 2 : Nat) : Int) := and_one' y (by omega)
  have a2 : bits .and .i64 ((y : Int) / 2 + (x : Int) / 3) 1 = (((y / 2 + x / 3) % 2 : Nat) : Int) := and_one' (y / 2 + x / 3) (by omega)
  have a3 : bits .and .i64 ((y : Int) + (x : Int) + (p : Int) % 3) 1 = (((y + x + p % 3) % 2 : Nat) : Int) := and_one' (y + x + p % 3) (by omega)
  go_enter Try.func125, Try.ntmps125
  go_wp2_with fail
  go_ret
  exact ⟨ret_bool (by rw [Bool.eq_iff_iff]; simp only [maskB, HQ.out]; simp; omega), rfl⟩
theorem dm_3 (x y : Nat) (w : World) (hx : x ≤ 176) (hy : y ≤ 176) : Calls Try.prog 126 #[.int .i64 y, .int .i64 x] w fun e w' => e = .returned (.bool (maskB 3 x y)) ∧ w' = w := by
  obtain ⟨p, hp⟩ : ∃ p, p = x * y := ⟨_, rfl⟩
  have hple : x * y ≤ 176 * 176 := Nat.mul_le_mul hx hy
  have hpi : (y : Int) * (x : Int) = (p : Int) := by rw [hp, Nat.mul_comm]; simp
  rw [← hp] at hple
  have HQ := Lib.hid hp.symm
  clear hp
  have a0 : bits .and .i64 ((y : Int) + (x : Int)) 1 = (((y + x) % 2 : Nat) : Int) := by rw [← Int.natCast_add]; exact and_one' (y + x) (by omega)
  have a1 : bits .and .i64 (y : Int) 1 = ((y % 2 : Nat) : Int) := and_one' y (by omega)
  have a2 : bits .and .i64 ((y : Int) / 2 + (x : Int) / 3) 1 = (((y / 2 + x / 3) % 2 : Nat) : Int) := and_one' (y / 2 + x / 3) (by omega)
  have a3 : bits .and .i64 ((y : Int) + (x : Int) + (p : Int) % 3) 1 = (((y + x + p % 3) % 2 : Nat) : Int) := and_one' (y + x + p % 3) (by omega)
  go_enter Try.func126, Try.ntmps126
  go_wp2_with fail
  go_ret
  exact ⟨ret_bool (by rw [Bool.eq_iff_iff]; simp only [maskB, HQ.out]; simp; omega), rfl⟩
theorem dm_4 (x y : Nat) (w : World) (hx : x ≤ 176) (hy : y ≤ 176) : Calls Try.prog 127 #[.int .i64 y, .int .i64 x] w fun e w' => e = .returned (.bool (maskB 4 x y)) ∧ w' = w := by
  obtain ⟨p, hp⟩ : ∃ p, p = x * y := ⟨_, rfl⟩
  have hple : x * y ≤ 176 * 176 := Nat.mul_le_mul hx hy
  have hpi : (y : Int) * (x : Int) = (p : Int) := by rw [hp, Nat.mul_comm]; simp
  rw [← hp] at hple
  have HQ := Lib.hid hp.symm
  clear hp
  have a0 : bits .and .i64 ((y : Int) + (x : Int)) 1 = (((y + x) % 2 : Nat) : Int) := by rw [← Int.natCast_add]; exact and_one' (y + x) (by omega)
  have a1 : bits .and .i64 (y : Int) 1 = ((y % 2 : Nat) : Int) := and_one' y (by omega)
  have a2 : bits .and .i64 ((y : Int) / 2 + (x : Int) / 3) 1 = (((y / 2 + x / 3) % 2 : Nat) : Int) := and_one' (y / 2 + x / 3) (by omega)
  have a3 : bits .and .i64 ((y : Int) + (x : Int) + (p : Int) % 3) 1 = (((y + x + p % 3) % 2 : Nat) : Int) := and_one' (y + x + p % 3) (by omega)
  go_enter Try.func127, Try.ntmps127
  go_wp2_with fail
  go_ret
  exact ⟨ret_bool (by rw [Bool.eq_iff_iff]; simp only [maskB, HQ.out]; simp; omega), rfl⟩
theorem dm_5 (x y : Nat) (w : World) (hx : x ≤ 176) (hy : y ≤ 176) : Calls Try.prog 128 #[.int .i64 y, .int .i64 x] w fun e w' => e = .returned (.bool (maskB 5 x y)) ∧ w' = w := by
  obtain ⟨p, hp⟩ : ∃ p, p = x * y := ⟨_, rfl⟩
  have hple : x * y ≤ 176 * 176 := Nat.mul_le_mul hx hy
  have hpi : (y : Int) * (x : Int) = (p : Int) := by rw [hp, Nat.mul_comm]; simp
  rw [← hp] at hple
  have HQ := Lib.hid hp.symm
  clear hp
  have a0 : bits .and .i64 ((y : Int) + (x : Int)) 1 = (((y + x) % 2 : Nat) : Int) := by rw [← Int.natCast_add]; exact and_one' (y + x) (by omega)
  have a1 : bits .and .i64 (y : Int) 1 = ((y % 2 : Nat) : Int) := and_one' y (by omega)
  have a2 : bits .and .i64 ((y : Int) / 2 + (x : Int) / 3) 1 = (((y / 2 + x / 3) % 2 : Nat) : Int) := and_one' (y / 2 + x / 3) (by omega)
  have a3 : bits .and .i64 ((y : Int) + (x : Int) + (p : Int) % 3) 1 = (((y + x + p % 3) % 2 : Nat) : Int) := and_one' (y + x + p % 3) (by omega)
  go_enter Try.func128, Try.ntmps128
  go_wp2_with fail
  go_ret
  exact ⟨ret_bool (by rw [Bool.eq_iff_iff]; simp only [maskB, HQ.out]; simp; omega), rfl⟩
theorem dm_6 (x y : Nat) (w : World) (hx : x ≤ 176) (hy : y ≤ 176) : Calls Try.prog 129 #[.int .i64 y, .int .i64 x] w fun e w' => e = .returned (.bool (maskB 6 x y)) ∧ w' = w := by
  obtain ⟨p, hp⟩ : ∃ p, p = x * y := ⟨_, rfl⟩
  have hple : x * y ≤ 176 * 176 := Nat.mul_le_mul hx hy
  have hpi : (y : Int) * (x : Int) = (p : Int) := by rw [hp, Nat.mul_comm]; simp
  rw [← hp] at hple
  have HQ := Lib.hid hp.symm
  clear hp
  have a0 : bits .and .i64 ((y : Int) + (x : Int)) 1 = (((y + x) % 2 : Nat) : Int) := by rw [← Int.natCast_add]; exact and_one' (y + x) (by omega)
  have a1 : bits .and .i64 (y : Int) 1 = ((y % 2 : Nat) : Int) := and_one' y (by omega)
  have a2 : bits .and .i64 ((y : Int) / 2 + (x : Int) / 3) 1 = (((y / 2 + x / 3) % 2 : Nat) : Int) := and_one' (y / 2 + x / 3) (by omega)
  have a3 : bits .and .i64 ((y : Int) + (x : Int) + (p : Int) % 3) 1 = (((y + x + p % 3) % 2 : Nat) : Int) := and_one' (y + x + p % 3) (by omega)
  go_enter Try.func129, Try.ntmps129
  go_wp2_with fail
  go_ret
  exact ⟨ret_bool (by rw [Bool.eq_iff_iff]; simp only [maskB, HQ.out]; simp; omega), rfl⟩
theorem dm_7 (x y : Nat) (w : World) (hx : x ≤ 176) (hy : y ≤ 176) : Calls Try.prog 130 #[.int .i64 y, .int .i64 x] w fun e w' => e = .returned (.bool (maskB 7 x y)) ∧ w' = w := by
  obtain ⟨p, hp⟩ : ∃ p, p = x * y := ⟨_, rfl⟩
  have hple : x * y ≤ 176 * 176 := Nat.mul_le_mul hx hy
  have hpi : (y : Int) * (x : Int) = (p : Int) := by rw [hp, Nat.mul_comm]; simp
  rw [← hp] at hple
  have HQ := Lib.hid hp.symm
  clear hp
  have a0 : bits .and .i64 ((y : Int) + (x : Int)) 1 = (((y + x) % 2 : Nat) : Int) := by rw [← Int.natCast_add]; exact and_one' (y + x) (by omega)
  have a1 : bits .and .i64 (y : Int) 1 = ((y % 2 : Nat) : Int) := and_one' y (by omega)
  have a2 : bits .and .i64 ((y : Int) / 2 + (x : Int) / 3) 1 = (((y / 2 + x / 3) % 2 : Nat) : Int) := and_one' (y / 2 + x / 3) (by omega)
  have a3 : bits .and .i64 ((y : Int) + (x : Int) + (p : Int) % 3) 1 = (((y + x + p % 3) % 2 : Nat) : Int) := and_one' (y + x + p % 3) (by omega)
  go_enter Try.func130, Try.ntmps130
  go_wp2_with fail
  go_ret
  exact ⟨ret_bool (by rw [Bool.eq_iff_iff]; simp only [maskB, HQ.out]; simp; omega), rfl⟩
/-- The masks as values. -/
def maskVs : List Value := [.func (.func 123) #[] #[], .func (.func 124) #[] #[], .func (.func 125) #[] #[], .func (.func 126) #[] #[], .func (.func 127) #[] #[], .func (.func 128) #[] #[], .func (.func 129) #[] #[], .func (.func 130) #[] #[]]
theorem dmTable_any (w : World) : Calls Try.prog 101 #[] w fun e w' => ∃ g, e = .returned (.slice (some ⟨g, 0, none⟩) 8 8) ∧ Blk w' g 164 maskVs.toArray ∧ Below w.heap.size w w' := by
  have h1 := Blk.fresh w 164 maskVs.toArray
  have h2 := bal (brf w) (.cells maskVs.toArray 164)
  have H := Lib.hid (And.intro h1 h2); clear h1 h2
  go_enter Try.func101, Try.ntmps101
  go_wp2
  go_ret
  exact ⟨w.heap.size, rfl, H.out.1, H.out.2⟩
set_option maxRecDepth 100000 in
theorem unmask_0 (p g n : Nat) (f : Nat → Nat → Bool) (w : World) (hm : MatAt w p g n n f) (hn : n ≤ 177) :
    Calls Try.prog 102 #[.agg #[.func (.func 123) #[] #[]], .pointer (some ⟨p, 0, none⟩), .int .i64 n] w fun e w' => e = .returned (.tuple #[]) ∧ MatAt w' p g n n (fun x y => f x y != maskB 0 x y) ∧ Below g w w' ∧ Frm 40 w w' := by
  have HM := Lib.hid hm
  have hgl : g < w.heap.size := by obtain ⟨ws, h, _⟩ := hm; exact h.rows.lt
  clear hm
  go_enter Try.func102, Try.ntmps102
  go_wp2_with fail
  go_loopw [6] (fun iv wr => ∃ (i : Nat), i ≤ n ∧ iv = .int .i64 (i : Int) ∧ Hid (MatAt wr p g n n (fun x y => f x y != (decide (y < i) && maskB 0 x y))) ∧ Hid (Blk wr w.heap.size 164 #[.func (.func 123) #[] #[]]) ∧ Hid (Below g w wr) ∧ Hid (Frm 40 w wr)) (fun iv _ => n - (intOf iv).toNat)
  case atStart => exact ⟨0, by omega, rfl, Lib.hid ((HM.out.up (bal (brf w) _)).congr (fun x y _ _ => by simp)), Lib.hid (Blk.fresh w _ _), Lib.hid ((brf w).alloc (Nat.le_refl _) _ |>.mono (Nat.le_of_lt hgl)), Lib.hid (Frm.below (bal (brf w) _))⟩
  case round =>
    clear HM
    obtain ⟨i, hi, rfl, HM, HK, HB, HFr⟩ := hrel
    by_cases hlt : i < n
    · go_wp2_with fail
      go_loopw [7] (fun jv wr => ∃ (j : Nat), j ≤ n ∧ jv = .int .i64 (j : Int) ∧ Hid (MatAt wr p g n n (fun x y => f x y != ((decide (y < i) || (decide (y = i) && decide (x < j))) && maskB 0 x y))) ∧ Hid (Blk wr w.heap.size 164 #[.func (.func 123) #[] #[]]) ∧ Hid (Below g w wr) ∧ Hid (Frm 40 w wr)) (fun jv _ => n - (intOf jv).toNat)
      case atStart => exact ⟨0, by omega, rfl, Lib.hid (HM.out.congr (fun x y _ _ => by simp)), HK, HB, HFr⟩
      case round =>
        clear HM HK HB HFr
        rename World => wj
        obtain ⟨j, hj, rfl, HM, HK, HB, HFr⟩ := hrel
        by_cases hjl : j < n
        · have c0 : wj.cell? ⟨w.heap.size, 0, none⟩ = some (.func (.func 123) #[] #[]) := by rw [HK.out.cell]; rfl
          go_wp2_with fail
          refine (dm_0 j i _ (by omega) (by omega)).mono ?_
          rintro e wj ⟨rfl, rfl⟩
          have hsame : ∀ x y, ¬ (x = j ∧ y = i) → ((decide (y < i) || (decide (y = i) && decide (x < j))) && maskB 0 x y) = ((decide (y < i) || (decide (y = i) && decide (x < j + 1))) && maskB 0 x y) := fun x y h => by
            have e : (decide (y < i) || (decide (y = i) && decide (x < j))) = (decide (y < i) || (decide (y = i) && decide (x < j + 1))) := by
              rw [Bool.eq_iff_iff]; simp only [Bool.or_eq_true, Bool.and_eq_true, decide_eq_true_eq]; omega
            rw [e]
          rcases hmv : maskB 0 j i with _ | _
          · have HM2 : Hid (MatAt wj p g n n (fun x y => f x y != ((decide (y < i) || (decide (y = i) && decide (x < j + 1))) && maskB 0 x y))) := Lib.hid (HM.out.congr (fun x y _ _ => by
              by_cases hxy : x = j ∧ y = i
              · obtain ⟨rfl, rfl⟩ := hxy; rw [hmv]; simp
              · rw [hsame x y hxy]))
            clear HM hmv hsame c0
            go_wp2_with fail
            go_roundw
            case rel => exact ⟨j + 1, by omega, by go_num, HM2, HK, HB, HFr⟩
            case measure => simp [intOf]; omega
          · go_wp2_with fail
            refine (matFlip_any p g n n j i _ _ HM.out hjl hlt (by omega) (by omega)).mono ?_
            rintro e w2 ⟨q, u, rfl, rfl, hm2⟩
            have HM2 : Hid (MatAt (wj.setCell ⟨g, q, none⟩ u) p g n n (fun x y => f x y != ((decide (y < i) || (decide (y = i) && decide (x < j + 1))) && maskB 0 x y))) := Lib.hid (hm2.congr (fun x y _ _ => by
              by_cases hxy : x = j ∧ y = i
              · obtain ⟨rfl, rfl⟩ := hxy; rw [hmv]; simp
              · rw [hsame x y hxy]
                have e2 : (decide (x = j) && decide (y = i)) = false := by rw [Bool.eq_false_iff]; simpa using hxy
                rw [e2]; simp))
            have HK2 : Hid (Blk (wj.setCell ⟨g, q, none⟩ u) w.heap.size 164 #[.func (.func 123) #[] #[]]) := Lib.hid (HK.out.far (by show w.heap.size ≠ g; omega) u)
            have HB2 := Lib.hid (HB.out.setCell (p := ⟨g, q, none⟩) (Nat.le_refl _) u)
            have HFr2 : Hid (Frm 40 w (wj.setCell ⟨g, q, none⟩ u)) := Lib.hid (by obtain ⟨ws, h9, _⟩ := HM.out; exact Frm.put (p := ⟨g, q, none⟩) HFr.out h9.rows u)
            clear hm2 HM HK HB HFr hmv hsame c0
            go_wp2_with fail
            go_roundw
            case rel => exact ⟨j + 1, by omega, by go_num, HM2, HK2, HB2, HFr2⟩
            case measure => simp [intOf]; omega
        · obtain rfl : n = j := by omega
          have HM2 : Hid (MatAt wj p g n n (fun x y => f x y != (decide (y < i + 1) && maskB 0 x y))) := Lib.hid (HM.out.congr (fun x y hx _ => by
            have e : (decide (y < i) || (decide (y = i) && decide (x < n))) = decide (y < i + 1) := by
              rw [Bool.eq_iff_iff]; simp only [Bool.or_eq_true, Bool.and_eq_true, decide_eq_true_eq]; omega
            rw [e]))
          clear HM
          go_wp2_with fail
          go_roundw
          case rel => exact ⟨i + 1, by omega, by go_num, HM2, HK, HB, HFr⟩
          case measure => simp [intOf]; omega
    · obtain rfl : n = i := by omega
      go_wp2_with fail
      refine bodyPost_end (results_none rfl _ _ _) rfl ?_
      exact ⟨rfl, HM.out.congr (fun x y _ hy => by simp [hy]), HB.out, HFr.out⟩
set_option maxRecDepth 100000 in
theorem unmask_1 (p g n : Nat) (f : Nat → Nat → Bool) (w : World) (hm : MatAt w p g n n f) (hn : n ≤ 177) :
    Calls Try.prog 102 #[.agg #[.func (.func 124) #[] #[]], .pointer (some ⟨p, 0, none⟩), .int .i64 n] w fun e w' => e = .returned (.tuple #[]) ∧ MatAt w' p g n n (fun x y => f x y != maskB 1 x y) ∧ Below g w w' ∧ Frm 40 w w' := by
  have HM := Lib.hid hm
  have hgl : g < w.heap.size := by obtain ⟨ws, h, _⟩ := hm; exact h.rows.lt
  clear hm
  go_enter Try.func102, Try.ntmps102
  go_wp2_with fail
  go_loopw [6] (fun iv wr => ∃ (i : Nat), i ≤ n ∧ iv = .int .i64 (i : Int) ∧ Hid (MatAt wr p g n n (fun x y => f x y != (decide (y < i) && maskB 1 x y))) ∧ Hid (Blk wr w.heap.size 164 #[.func (.func 124) #[] #[]]) ∧ Hid (Below g w wr) ∧ Hid (Frm 40 w wr)) (fun iv _ => n - (intOf iv).toNat)
  case atStart => exact ⟨0, by omega, rfl, Lib.hid ((HM.out.up (bal (brf w) _)).congr (fun x y _ _ => by simp)), Lib.hid (Blk.fresh w _ _), Lib.hid ((brf w).alloc (Nat.le_refl _) _ |>.mono (Nat.le_of_lt hgl)), Lib.hid (Frm.below (bal (brf w) _))⟩
  case round =>
    clear HM
    obtain ⟨i, hi, rfl, HM, HK, HB, HFr⟩ := hrel
    by_cases hlt : i < n
    · go_wp2_with fail
      go_loopw [7] (fun jv wr => ∃ (j : Nat), j ≤ n ∧ jv = .int .i64 (j : Int) ∧ Hid (MatAt wr p g n n (fun x y => f x y != ((decide (y < i) || (decide (y = i) && decide (x < j))) && maskB 1 x y))) ∧ Hid (Blk wr w.heap.size 164 #[.func (.func 124) #[] #[]]) ∧ Hid (Below g w wr) ∧ Hid (Frm 40 w wr)) (fun jv _ => n - (intOf jv).toNat)
      case atStart => exact ⟨0, by omega, rfl, Lib.hid (HM.out.congr (fun x y _ _ => by simp)), HK, HB, HFr⟩
      case round =>
        clear HM HK HB HFr
        rename World => wj
        obtain ⟨j, hj, rfl, HM, HK, HB, HFr⟩ := hrel
        by_cases hjl : j < n
        · have c0 : wj.cell? ⟨w.heap.size, 0, none⟩ = some (.func (.func 124) #[] #[]) := by rw [HK.out.cell]; rfl
          go_wp2_with fail
          refine (dm_1 j i _ (by omega) (by omega)).mono ?_
          rintro e wj ⟨rfl, rfl⟩
          have hsame : ∀ x y, ¬ (x = j ∧ y = i) → ((decide (y < i) || (decide (y = i) && decide (x < j))) && maskB 1 x y) = ((decide (y < i) || (decide (y = i) && decide (x < j + 1))) && maskB 1 x y) := fun x y h => by
            have e : (decide (y < i) || (decide (y = i) && decide (x < j))) = (decide (y < i) || (decide (y = i) && decide (x < j + 1))) := by
              rw [Bool.eq_iff_iff]; simp only [Bool.or_eq_true, Bool.and_eq_true, decide_eq_true_eq]; omega
            rw [e]
          rcases hmv : maskB 1 j i with _ | _
          · have HM2 : Hid (MatAt wj p g n n (fun x y => f x y != ((decide (y < i) || (decide (y = i) && decide (x < j + 1))) && maskB 1 x y))) := Lib.hid (HM.out.congr (fun x y _ _ => by
              by_cases hxy : x = j ∧ y = i
              · obtain ⟨rfl, rfl⟩ := hxy; rw [hmv]; simp
              · rw [hsame x y hxy]))
            clear HM hmv hsame c0
            go_wp2_with fail
            go_roundw
            case rel => exact ⟨j + 1, by omega, by go_num, HM2, HK, HB, HFr⟩
            case measure => simp [intOf]; omega
          · go_wp2_with fail
            refine (matFlip_any p g n n j i _ _ HM.out hjl hlt (by omega) (by omega)).mono ?_
            rintro e w2 ⟨q, u, rfl, rfl, hm2⟩
            have HM2 : Hid (MatAt (wj.setCell ⟨g, q, none⟩ u) p g n n (fun x y => f x y != ((decide (y < i) || (decide (y = i) && decide (x < j + 1))) && maskB 1 x y))) := Lib.hid (hm2.congr (fun x y _ _ => by
              by_cases hxy : x = j ∧ y = i
              · obtain ⟨rfl, rfl⟩ := hxy; rw [hmv]; simp
              · rw [hsame x y hxy]
                have e2 : (decide (x = j) && decide (y = i)) = false := by rw [Bool.eq_false_iff]; simpa using hxy
                rw [e2]; simp))
            have HK2 : Hid (Blk (wj.setCell ⟨g, q, none⟩ u) w.heap.size 164 #[.func (.func 124) #[] #[]]) := Lib.hid (HK.out.far (by show w.heap.size ≠ g; omega) u)
            have HB2 := Lib.hid (HB.out.setCell (p := ⟨g, q, none⟩) (Nat.le_refl _) u)
            have HFr2 : Hid (Frm 40 w (wj.setCell ⟨g, q, none⟩ u)) := Lib.hid (by obtain ⟨ws, h9, _⟩ := HM.out; exact Frm.put (p := ⟨g, q, none⟩) HFr.out h9.rows u)
            clear hm2 HM HK HB HFr hmv hsame c0
            go_wp2_with fail
            go_roundw
            case rel => exact ⟨j + 1, by omega, by go_num, HM2, HK2, HB2, HFr2⟩
            case measure => simp [intOf]; omega
        · obtain rfl : n = j := by omega
          have HM2 : Hid (MatAt wj p g n n (fun x y => f x y != (decide (y < i + 1) && maskB 1 x y))) := Lib.hid (HM.out.congr (fun x y hx _ => by
            have e : (decide (y < i) || (decide (y = i) && decide (x < n))) = decide (y < i + 1) := by
              rw [Bool.eq_iff_iff]; simp only [Bool.or_eq_true, Bool.and_eq_true, decide_eq_true_eq]; omega
            rw [e]))
          clear HM
          go_wp2_with fail
          go_roundw
          case rel => exact ⟨i + 1, by omega, by go_num, HM2, HK, HB, HFr⟩
          case measure => simp [intOf]; omega
    · obtain rfl : n = i := by omega
      go_wp2_with fail
      refine bodyPost_end (results_none rfl _ _ _) rfl ?_
      exact ⟨rfl, HM.out.congr (fun x y _ hy => by simp [hy]), HB.out, HFr.out⟩
set_option maxRecDepth 100000 in
theorem unmask_2 (p g n : Nat) (f : Nat → Nat → Bool) (w : World) (hm : MatAt w p g n n f) (hn : n ≤ 177) :
    Calls Try.prog 102 #[.agg #[.func (.func 125) #[] #[]], .pointer (some ⟨p, 0, none⟩), .int .i64 n] w fun e w' => e = .returned (.tuple #[]) ∧ MatAt w' p g n n (fun x y => f x y != maskB 2 x y) ∧ Below g w w' ∧ Frm 40 w w' := by
  have HM := Lib.hid hm
  have hgl : g < w.heap.size := by obtain ⟨ws, h, _⟩ := hm; exact h.rows.lt
  clear hm
  go_enter Try.func102, Try.ntmps102
  go_wp2_with fail
  go_loopw [6] (fun iv wr => ∃ (i : Nat), i ≤ n ∧ iv = .int .i64 (i : Int) ∧ Hid (MatAt wr p g n n (fun x y => f x y != (decide (y < i) && maskB 2 x y))) ∧ Hid (Blk wr w.heap.size 164 #[.func (.func 125) #[] #[]]) ∧ Hid (Below g w wr) ∧ Hid (Frm 40 w wr)) (fun iv _ => n - (intOf iv).toNat)
  case atStart => exact ⟨0, by omega, rfl, Lib.hid ((HM.out.up (bal (brf w) _)).congr (fun x y _ _ => by simp)), Lib.hid (Blk.fresh w _ _), Lib.hid ((brf w).alloc (Nat.le_refl _) _ |>.mono (Nat.le_of_lt hgl)), Lib.hid (Frm.below (bal (brf w) _))⟩
  case round =>
    clear HM
    obtain ⟨i, hi, rfl, HM, HK, HB, HFr⟩ := hrel
    by_cases hlt : i < n
    · go_wp2_with fail
      go_loopw [7] (fun jv wr => ∃ (j : Nat), j ≤ n ∧ jv = .int .i64 (j : Int) ∧ Hid (MatAt wr p g n n (fun x y => f x y != ((decide (y < i) || (decide (y = i) && decide (x < j))) && maskB 2 x y))) ∧ Hid (Blk wr w.heap.size 164 #[.func (.func 125) #[] #[]]) ∧ Hid (Below g w wr) ∧ Hid (Frm 40 w wr)) (fun jv _ => n - (intOf jv).toNat)
      case atStart => exact ⟨0, by omega, rfl, Lib.hid (HM.out.congr (fun x y _ _ => by simp)), HK, HB, HFr⟩
      case round =>
        clear HM HK HB HFr
        rename World => wj
        obtain ⟨j, hj, rfl, HM, HK, HB, HFr⟩ := hrel
        by_cases hjl : j < n
        · have c0 : wj.cell? ⟨w.heap.size, 0, none⟩ = some (.func (.func 125) #[] #[]) := by rw [HK.out.cell]; rfl
          go_wp2_with fail
          refine (dm_2 j i _ (by omega) (by omega)).mono ?_
          rintro e wj ⟨rfl, rfl⟩
          have hsame : ∀ x y, ¬ (x = j ∧ y = i) → ((decide (y < i) || (decide (y = i) && decide (x < j))) && maskB 2 x y) = ((decide (y < i) || (decide (y = i) && decide (x < j + 1))) && maskB 2 x y) := fun x y h => by
            have e : (decide (y < i) || (decide (y = i) && decide (x < j))) = (decide (y < i) || (decide (y = i) && decide (x < j + 1))) := by
              rw [Bool.eq_iff_iff]; simp only [Bool.or_eq_true, Bool.and_eq_true, decide_eq_true_eq]; omega
            rw [e]
          rcases hmv : maskB 2 j i with _ | _
          · have HM2 : Hid (MatAt wj p g n n (fun x y => f x y != ((decide (y < i) || (decide (y = i) && decide (x < j + 1))) && maskB 2 x y))) := Lib.hid (HM.out.congr (fun x y _ _ => by
              by_cases hxy : x = j ∧ y = i
              · obtain ⟨rfl, rfl⟩ := hxy; rw [hmv]; simp
              · rw [hsame x y hxy]))
            clear HM hmv hsame c0
            go_wp2_with fail
            go_roundw
            case rel => exact ⟨j + 1, by omega, by go_num, HM2, HK, HB, HFr⟩
            case measure => simp [intOf]; omega
          · go_wp2_with fail
            refine (matFlip_any p g n n j i _ _ HM.out hjl hlt (by omega) (by omega)).mono ?_
            rintro e w2 ⟨q, u, rfl, rfl, hm2⟩
            have HM2 : Hid (MatAt (wj.setCell ⟨g, q, none⟩ u) p g n n (fun x y => f x y != ((decide (y < i) || (decide (y = i) && decide (x < j + 1))) && maskB 2 x y))) := Lib.hid (hm2.congr (fun x y _ _ => by
              by_cases hxy : x = j ∧ y = i
              · obtain ⟨rfl, rfl⟩ := hxy; rw [hmv]; simp
              · rw [hsame x y hxy]
                have e2 : (decide (x = j) && decide (y = i)) = false := by rw [Bool.eq_false_iff]; simpa using hxy
                rw [e2]; simp))
            have HK2 : Hid (Blk (wj.setCell ⟨g, q, none⟩ u) w.heap.size 164 #[.func (.func 125) #[] #[]]) := Lib.hid (HK.out.far (by show w.heap.size ≠ g; omega) u)
            have HB2 := Lib.hid (HB.out.setCell (p := ⟨g, q, none⟩) (Nat.le_refl _) u)
            have HFr2 : Hid (Frm 40 w (wj.setCell ⟨g, q, none⟩ u)) := Lib.hid (by obtain ⟨ws, h9, _⟩ := HM.out; exact Frm.put (p := ⟨g, q, none⟩) HFr.out h9.rows u)
            clear hm2 HM HK HB HFr hmv hsame c0
            go_wp2_with fail
            go_roundw
            case rel => exact ⟨j + 1, by omega, by go_num, HM2, HK2, HB2, HFr2⟩
            case measure => simp [intOf]; omega
        · obtain rfl : n = j := by omega
          have HM2 : Hid (MatAt wj p g n n (fun x y => f x y != (decide (y < i + 1) && maskB 2 x y))) := Lib.hid (HM.out.congr (fun x y hx _ => by
            have e : (decide (y < i) || (decide (y = i) && decide (x < n))) = decide (y < i + 1) := by
              rw [Bool.eq_iff_iff]; simp only [Bool.or_eq_true, Bool.and_eq_true, decide_eq_true_eq]; omega
            rw [e]))
          clear HM
          go_wp2_with fail
          go_roundw
          case rel => exact ⟨i + 1, by omega, by go_num, HM2, HK, HB, HFr⟩
          case measure => simp [intOf]; omega
    · obtain rfl : n = i := by omega
      go_wp2_with fail
      refine bodyPost_end (results_none rfl _ _ _) rfl ?_
      exact ⟨rfl, HM.out.congr (fun x y _ hy => by simp [hy]), HB.out, HFr.out⟩
set_option maxRecDepth 100000 in
theorem unmask_3 (p g n : Nat) (f : Nat → Nat → Bool) (w : World) (hm : MatAt w p g n n f) (hn : n ≤ 177) :
    Calls Try.prog 102 #[.agg #[.func (.func 126) #[] #[]], .pointer (some ⟨p, 0, none⟩), .int .i64 n] w fun e w' => e = .returned (.tuple #[]) ∧ MatAt w' p g n n (fun x y => f x y != maskB 3 x y) ∧ Below g w w' ∧ Frm 40 w w' := by
  have HM := Lib.hid hm
  have hgl : g < w.heap.size := by obtain ⟨ws, h, _⟩ := hm; exact h.rows.lt
  clear hm
  go_enter Try.func102, Try.ntmps102
  go_wp2_with fail
  go_loopw [6] (fun iv wr => ∃ (i : Nat), i ≤ n ∧ iv = .int .i64 (i : Int) ∧ Hid (MatAt wr p g n n (fun x y => f x y != (decide (y < i) && maskB 3 x y))) ∧ Hid (Blk wr w.heap.size 164 #[.func (.func 126) #[] #[]]) ∧ Hid (Below g w wr) ∧ Hid (Frm 40 w wr)) (fun iv _ => n - (intOf iv).toNat)
  case atStart => exact ⟨0, by omega, rfl, Lib.hid ((HM.out.up (bal (brf w) _)).congr (fun x y _ _ => by simp)), Lib.hid (Blk.fresh w _ _), Lib.hid ((brf w).alloc (Nat.le_refl _) _ |>.mono (Nat.le_of_lt hgl)), Lib.hid (Frm.below (bal (brf w) _))⟩
  case round =>
    clear HM
    obtain ⟨i, hi, rfl, HM, HK, HB, HFr⟩ := hrel
    by_cases hlt : i < n
    · go_wp2_with fail
      go_loopw [7] (fun jv wr => ∃ (j : Nat), j ≤ n ∧ jv = .int .i64 (j : Int) ∧ Hid (MatAt wr p g n n (fun x y => f x y != ((decide (y < i) || (decide (y = i) && decide (x < j))) && maskB 3 x y))) ∧ Hid (Blk wr w.heap.size 164 #[.func (.func 126) #[] #[]]) ∧ Hid (Below g w wr) ∧ Hid (Frm 40 w wr)) (fun jv _ => n - (intOf jv).toNat)
      case atStart => exact ⟨0, by omega, rfl, Lib.hid (HM.out.congr (fun x y _ _ => by simp)), HK, HB, HFr⟩
      case round =>
        clear HM HK HB HFr
        rename World => wj
        obtain ⟨j, hj, rfl, HM, HK, HB, HFr⟩ := hrel
        by_cases hjl : j < n
        · have c0 : wj.cell? ⟨w.heap.size, 0, none⟩ = some (.func (.func 126) #[] #[]) := by rw [HK.out.cell]; rfl
          go_wp2_with fail
          refine (dm_3 j i _ (by omega) (by omega)).mono ?_
          rintro e wj ⟨rfl, rfl⟩
          have hsame : ∀ x y, ¬ (x = j ∧ y = i) → ((decide (y < i) || (decide (y = i) && decide (x < j))) && maskB 3 x y) = ((decide (y < i) || (decide (y = i) && decide (x < j + 1))) && maskB 3 x y) := fun x y h => by
            have e : (decide (y < i) || (decide (y = i) && decide (x < j))) = (decide (y < i) || (decide (y = i) && decide (x < j + 1))) := by
              rw [Bool.eq_iff_iff]; simp only [Bool.or_eq_true, Bool.and_eq_true, decide_eq_true_eq]; omega
            rw [e]
          rcases hmv : maskB 3 j i with _ | _
          · have HM2 : Hid (MatAt wj p g n n (fun x y => f x y != ((decide (y < i) || (decide (y = i) && decide (x < j + 1))) && maskB 3 x y))) := Lib.hid (HM.out.congr (fun x y _ _ => by
              by_cases hxy : x = j ∧ y = i
              · obtain ⟨rfl, rfl⟩ := hxy; rw [hmv]; simp
              · rw [hsame x y hxy]))
            clear HM hmv hsame c0
            go_wp2_with fail
            go_roundw
            case rel => exact ⟨j + 1, by omega, by go_num, HM2, HK, HB, HFr⟩
            case measure => simp [intOf]; omega
          · go_wp2_with fail
            refine (matFlip_any p g n n j i _ _ HM.out hjl hlt (by omega) (by omega)).mono ?_
            rintro e w2 ⟨q, u, rfl, rfl, hm2⟩
            have HM2 : Hid (MatAt (wj.setCell ⟨g, q, none⟩ u) p g n n (fun x y => f x y != ((decide (y < i) || (decide (y = i) && decide (x < j + 1))) && maskB 3 x y))) := Lib.hid (hm2.congr (fun x y _ _ => by
              by_cases hxy : x = j ∧ y = i
              · obtain ⟨rfl, rfl⟩ := hxy; rw [hmv]; simp
              · rw [hsame x y hxy]
                have e2 : (decide (x = j) && decide (y = i)) = false := by rw [Bool.eq_false_iff]; simpa using hxy
                rw [e2]; simp))
            have HK2 : Hid (Blk (wj.setCell ⟨g, q, none⟩ u) w.heap.size 164 #[.func (.func 126) #[] #[]]) := Lib.hid (HK.out.far (by show w.heap.size ≠ g; omega) u)
            have HB2 := Lib.hid (HB.out.setCell (p := ⟨g, q, none⟩) (Nat.le_refl _) u)
            have HFr2 : Hid (Frm 40 w (wj.setCell ⟨g, q, none⟩ u)) := Lib.hid (by obtain ⟨ws, h9, _⟩ := HM.out; exact Frm.put (p := ⟨g, q, none⟩) HFr.out h9.rows u)
            clear hm2 HM HK HB HFr hmv hsame c0
            go_wp2_with fail
            go_roundw
            case rel => exact ⟨j + 1, by omega, by go_num, HM2, HK2, HB2, HFr2⟩
            case measure => simp [intOf]; omega
        · obtain rfl : n = j := by omega
          have HM2 : Hid (MatAt wj p g n n (fun x y => f x y != (decide (y < i + 1) && maskB 3 x y))) := Lib.hid (HM.out.congr (fun x y hx _ => by
            have e : (decide (y < i) || (decide (y = i) && decide (x < n))) = decide (y < i + 1) := by
              rw [Bool.eq_iff_iff]; simp only [Bool.or_eq_true, Bool.and_eq_true, decide_eq_true_eq]; omega
            rw [e]))
          clear HM
          go_wp2_with fail
          go_roundw
          case rel => exact ⟨i + 1, by omega, by go_num, HM2, HK, HB, HFr⟩
          case measure => simp [intOf]; omega
    · obtain rfl : n = i := by omega
      go_wp2_with fail
      refine bodyPost_end (results_none rfl _ _ _) rfl ?_
      exact ⟨rfl, HM.out.congr (fun x y _ hy => by simp [hy]), HB.out, HFr.out⟩
set_option maxRecDepth 100000 in
theorem unmask_4 (p g n : Nat) (f : Nat → Nat → Bool) (w : World) (hm : MatAt w p g n n f) (hn : n ≤ 177) :
    Calls Try.prog 102 #[.agg #[.func (.func 127) #[] #[]], .pointer (some ⟨p, 0, none⟩), .int .i64 n] w fun e w' => e = .returned (.tuple #[]) ∧ MatAt w' p g n n (fun x y => f x y != maskB 4 x y) ∧ Below g w w' ∧ Frm 40 w w' := by
  have HM := Lib.hid hm
  have hgl : g < w.heap.size := by obtain ⟨ws, h, _⟩ := hm; exact h.rows.lt
  clear hm
  go_enter Try.func102, Try.ntmps102
  go_wp2_with fail
  go_loopw [6] (fun iv wr => ∃ (i : Nat), i ≤ n ∧ iv = .int .i64 (i : Int) ∧ Hid (MatAt wr p g n n (fun x y => f x y != (decide (y < i) && maskB 4 x y))) ∧ Hid (Blk wr w.heap.size 164 #[.func (.func 127) #[] #[]]) ∧ Hid (Below g w wr) ∧ Hid (Frm 40 w wr)) (fun iv _ => n - (intOf iv).toNat)
  case atStart => exact ⟨0, by omega, rfl, Lib.hid ((HM.out.up (bal (brf w) _)).congr (fun x y _ _ => by simp)), Lib.hid (Blk.fresh w _ _), Lib.hid ((brf w).alloc (Nat.le_refl _) _ |>.mono (Nat.le_of_lt hgl)), Lib.hid (Frm.below (bal (brf w) _))⟩
  case round =>
    clear HM
    obtain ⟨i, hi, rfl, HM, HK, HB, HFr⟩ := hrel
    by_cases hlt : i < n
    · go_wp2_with fail
      go_loopw [7] (fun jv wr => ∃ (j : Nat), j ≤ n ∧ jv = .int .i64 (j : Int) ∧ Hid (MatAt wr p g n n (fun x y => f x y != ((decide (y < i) || (decide (y = i) && decide (x < j))) && maskB 4 x y))) ∧ Hid (Blk wr w.heap.size 164 #[.func (.func 127) #[] #[]]) ∧ Hid (Below g w wr) ∧ Hid (Frm 40 w wr)) (fun jv _ => n - (intOf jv).toNat)
      case atStart => exact ⟨0, by omega, rfl, Lib.hid (HM.out.congr (fun x y _ _ => by simp)), HK, HB, HFr⟩
      case round =>
        clear HM HK HB HFr
        rename World => wj
        obtain ⟨j, hj, rfl, HM, HK, HB, HFr⟩ := hrel
        by_cases hjl : j < n
        · have c0 : wj.cell? ⟨w.heap.size, 0, none⟩ = some (.func (.func 127) #[] #[]) := by rw [HK.out.cell]; rfl
          go_wp2_with fail
          refine (dm_4 j i _ (by omega) (by omega)).mono ?_
          rintro e wj ⟨rfl, rfl⟩
          have hsame : ∀ x y, ¬ (x = j ∧ y = i) → ((decide (y < i) || (decide (y = i) && decide (x < j))) && maskB 4 x y) = ((decide (y < i) || (decide (y = i) && decide (x < j + 1))) && maskB 4 x y) := fun x y h => by
            have e : (decide (y < i) || (decide (y = i) && decide (x < j))) = (decide (y < i) || (decide (y = i) && decide (x < j + 1))) := by
              rw [Bool.eq_iff_iff]; simp only [Bool.or_eq_true, Bool.and_eq_true, decide_eq_true_eq]; omega
            rw [e]
          rcases hmv : maskB 4 j i with _ | _
          · have HM2 : Hid (MatAt wj p g n n (fun x y => f x y != ((decide (y < i) || (decide (y = i) && decide (x < j + 1))) && maskB 4 x y))) := Lib.hid (HM.out.congr (fun x y _ _ => by
              by_cases hxy : x = j ∧ y = i
              · obtain ⟨rfl, rfl⟩ := hxy; rw [hmv]; simp
              · rw [hsame x y hxy]))
            clear HM hmv hsame c0
            go_wp2_with fail
            go_roundw
            case rel => exact ⟨j + 1, by omega, by go_num, HM2, HK, HB, HFr⟩
            case measure => simp [intOf]; omega
          · go_wp2_with fail
            refine (matFlip_any p g n n j i _ _ HM.out hjl hlt (by omega) (by omega)).mono ?_
            rintro e w2 ⟨q, u, rfl, rfl, hm2⟩
            have HM2 : Hid (MatAt (wj.setCell ⟨g, q, none⟩ u) p g n n (fun x y => f x y != ((decide (y < i) || (decide (y = i) && decide (x < j + 1))) && maskB 4 x y))) := Lib.hid (hm2.congr (fun x y _ _ => by
              by_cases hxy : x = j ∧ y = i
              · obtain ⟨rfl, rfl⟩ := hxy; rw [hmv]; simp
              · rw [hsame x y hxy]
                have e2 : (decide (x = j) && decide (y = i)) = false := by rw [Bool.eq_false_iff]; simpa using hxy
                rw [e2]; simp))
            have HK2 : Hid (Blk (wj.setCell ⟨g, q, none⟩ u) w.heap.size 164 #[.func (.func 127) #[] #[]]) := Lib.hid (HK.out.far (by show w.heap.size ≠ g; omega) u)
            have HB2 := Lib.hid (HB.out.setCell (p := ⟨g, q, none⟩) (Nat.le_refl _) u)
            have HFr2 : Hid (Frm 40 w (wj.setCell ⟨g, q, none⟩ u)) := Lib.hid (by obtain ⟨ws, h9, _⟩ := HM.out; exact Frm.put (p := ⟨g, q, none⟩) HFr.out h9.rows u)
            clear hm2 HM HK HB HFr hmv hsame c0
            go_wp2_with fail
            go_roundw
            case rel => exact ⟨j + 1, by omega, by go_num, HM2, HK2, HB2, HFr2⟩
            case measure => simp [intOf]; omega
        · obtain rfl : n = j := by omega
          have HM2 : Hid (MatAt wj p g n n (fun x y => f x y != (decide (y < i + 1) && maskB 4 x y))) := Lib.hid (HM.out.congr (fun x y hx _ => by
            have e : (decide (y < i) || (decide (y = i) && decide (x < n))) = decide (y < i + 1) := by
              rw [Bool.eq_iff_iff]; simp only [Bool.or_eq_true, Bool.and_eq_true, decide_eq_true_eq]; omega
            rw [e]))
          clear HM
          go_wp2_with fail
          go_roundw
          case rel => exact ⟨i + 1, by omega, by go_num, HM2, HK, HB, HFr⟩
          case measure => simp [intOf]; omega
    · obtain rfl : n = i := by omega
      go_wp2_with fail
      refine bodyPost_end (results_none rfl _ _ _) rfl ?_
      exact ⟨rfl, HM.out.congr (fun x y _ hy => by simp [hy]), HB.out, HFr.out⟩
set_option maxRecDepth 100000 in
theorem unmask_5 (p g n : Nat) (f : Nat → Nat → Bool) (w : World) (hm : MatAt w p g n n f) (hn : n ≤ 177) :
    Calls Try.prog 102 #[.agg #[.func (.func 128) #[] #[]], .pointer (some ⟨p, 0, none⟩), .int .i64 n] w fun e w' => e = .returned (.tuple #[]) ∧ MatAt w' p g n n (fun x y => f x y != maskB 5 x y) ∧ Below g w w' ∧ Frm 40 w w' := by
  have HM := Lib.hid hm
  have hgl : g < w.heap.size := by obtain ⟨ws, h, _⟩ := hm; exact h.rows.lt
  clear hm
  go_enter Try.func102, Try.ntmps102
  go_wp2_with fail
  go_loopw [6] (fun iv wr => ∃ (i : Nat), i ≤ n ∧ iv = .int .i64 (i : Int) ∧ Hid (MatAt wr p g n n (fun x y => f x y != (decide (y < i) && maskB 5 x y))) ∧ Hid (Blk wr w.heap.size 164 #[.func (.func 128) #[] #[]]) ∧ Hid (Below g w wr) ∧ Hid (Frm 40 w wr)) (fun iv _ => n - (intOf iv).toNat)
  case atStart => exact ⟨0, by omega, rfl, Lib.hid ((HM.out.up (bal (brf w) _)).congr (fun x y _ _ => by simp)), Lib.hid (Blk.fresh w _ _), Lib.hid ((brf w).alloc (Nat.le_refl _) _ |>.mono (Nat.le_of_lt hgl)), Lib.hid (Frm.below (bal (brf w) _))⟩
  case round =>
    clear HM
    obtain ⟨i, hi, rfl, HM, HK, HB, HFr⟩ := hrel
    by_cases hlt : i < n
    · go_wp2_with fail
      go_loopw [7] (fun jv wr => ∃ (j : Nat), j ≤ n ∧ jv = .int .i64 (j : Int) ∧ Hid (MatAt wr p g n n (fun x y => f x y != ((decide (y < i) || (decide (y = i) && decide (x < j))) && maskB 5 x y))) ∧ Hid (Blk wr w.heap.size 164 #[.func (.func 128) #[] #[]]) ∧ Hid (Below g w wr) ∧ Hid (Frm 40 w wr)) (fun jv _ => n - (intOf jv).toNat)
      case atStart => exact ⟨0, by omega, rfl, Lib.hid (HM.out.congr (fun x y _ _ => by simp)), HK, HB, HFr⟩
      case round =>
        clear HM HK HB HFr
        rename World => wj
        obtain ⟨j, hj, rfl, HM, HK, HB, HFr⟩ := hrel
        by_cases hjl : j < n
        · have c0 : wj.cell? ⟨w.heap.size, 0, none⟩ = some (.func (.func 128) #[] #[]) := by rw [HK.out.cell]; rfl
          go_wp2_with fail
          refine (dm_5 j i _ (by omega) (by omega)).mono ?_
          rintro e wj ⟨rfl, rfl⟩
          have hsame : ∀ x y, ¬ (x = j ∧ y = i) → ((decide (y < i) || (decide (y = i) && decide (x < j))) && maskB 5 x y) = ((decide (y < i) || (decide (y = i) && decide (x < j + 1))) && maskB 5 x y) := fun x y h => by
            have e : (decide (y < i) || (decide (y = i) && decide (x < j))) = (decide (y < i) || (decide (y = i) && decide (x < j + 1))) := by
              rw [Bool.eq_iff_iff]; simp only [Bool.or_eq_true, Bool.and_eq_true, decide_eq_true_eq]; omega
            rw [e]
          rcases hmv : maskB 5 j i with _ | _
          · have HM2 : Hid (MatAt wj p g n n (fun x y => f x y != ((decide (y < i) || (decide (y = i) && decide (x < j + 1))) && maskB 5 x y))) := Lib.hid (HM.out.congr (fun x y _ _ => by
              by_cases hxy : x = j ∧ y = i
              · obtain ⟨rfl, rfl⟩ := hxy; rw [hmv]; simp
              · rw [hsame x y hxy]))
            clear HM hmv hsame c0
            go_wp2_with fail
            go_roundw
            case rel => exact ⟨j + 1, by omega, by go_num, HM2, HK, HB, HFr⟩
            case measure => simp [intOf]; omega
          · go_wp2_with fail
            refine (matFlip_any p g n n j i _ _ HM.out hjl hlt (by omega) (by omega)).mono ?_
            rintro e w2 ⟨q, u, rfl, rfl, hm2⟩
            have HM2 : Hid (MatAt (wj.setCell ⟨g, q, none⟩ u) p g n n (fun x y => f x y != ((decide (y < i) || (decide (y = i) && decide (x < j + 1))) && maskB 5 x y))) := Lib.hid (hm2.congr (fun x y _ _ => by
              by_cases hxy : x = j ∧ y = i
              · obtain ⟨rfl, rfl⟩ := hxy; rw [hmv]; simp
              · rw [hsame x y hxy]
                have e2 : (decide (x = j) && decide (y = i)) = false := by rw [Bool.eq_false_iff]; simpa using hxy
                rw [e2]; simp))
            have HK2 : Hid (Blk (wj.setCell ⟨g, q, none⟩ u) w.heap.size 164 #[.func (.func 128) #[] #[]]) := Lib.hid (HK.out.far (by show w.heap.size ≠ g; omega) u)
            have HB2 := Lib.hid (HB.out.setCell (p := ⟨g, q, none⟩) (Nat.le_refl _) u)
            have HFr2 : Hid (Frm 40 w (wj.setCell ⟨g, q, none⟩ u)) := Lib.hid (by obtain ⟨ws, h9, _⟩ := HM.out; exact Frm.put (p := ⟨g, q, none⟩) HFr.out h9.rows u)
            clear hm2 HM HK HB HFr hmv hsame c0
            go_wp2_with fail
            go_roundw
            case rel => exact ⟨j + 1, by omega, by go_num, HM2, HK2, HB2, HFr2⟩
            case measure => simp [intOf]; omega
        · obtain rfl : n = j := by omega
          have HM2 : Hid (MatAt wj p g n n (fun x y => f x y != (decide (y < i + 1) && maskB 5 x y))) := Lib.hid (HM.out.congr (fun x y hx _ => by
            have e : (decide (y < i) || (decide (y = i) && decide (x < n))) = decide (y < i + 1) := by
              rw [Bool.eq_iff_iff]; simp only [Bool.or_eq_true, Bool.and_eq_true, decide_eq_true_eq]; omega
            rw [e]))
          clear HM
          go_wp2_with fail
          go_roundw
          case rel => exact ⟨i + 1, by omega, by go_num, HM2, HK, HB, HFr⟩
          case measure => simp [intOf]; omega
    · obtain rfl : n = i := by omega
      go_wp2_with fail
      refine bodyPost_end (results_none rfl _ _ _) rfl ?_
      exact ⟨rfl, HM.out.congr (fun x y _ hy => by simp [hy]), HB.out, HFr.out⟩
set_option maxRecDepth 100000 in
theorem unmask_6 (p g n : Nat) (f : Nat → Nat → Bool) (w : World) (hm : MatAt w p g n n f) (hn : n ≤ 177) :
    Calls Try.prog 102 #[.agg #[.func (.func 129) #[] #[]], .pointer (some ⟨p, 0, none⟩), .int .i64 n] w fun e w' => e = .returned (.tuple #[]) ∧ MatAt w' p g n n (fun x y => f x y != maskB 6 x y) ∧ Below g w w' ∧ Frm 40 w w' := by
  have HM := Lib.hid hm
  have hgl : g < w.heap.size := by obtain ⟨ws, h, _⟩ := hm; exact h.rows.lt
  clear hm
  go_enter Try.func102, Try.ntmps102
  go_wp2_with fail
  go_loopw [6] (fun iv wr => ∃ (i : Nat), i ≤ n ∧ iv = .int .i64 (i : Int) ∧ Hid (MatAt wr p g n n (fun x y => f x y != (decide (y < i) && maskB 6 x y))) ∧ Hid (Blk wr w.heap.size 164 #[.func (.func 129) #[] #[]]) ∧ Hid (Below g w wr) ∧ Hid (Frm 40 w wr)) (fun iv _ => n - (intOf iv).toNat)
  case atStart => exact ⟨0, by omega, rfl, Lib.hid ((HM.out.up (bal (brf w) _)).congr (fun x y _ _ => by simp)), Lib.hid (Blk.fresh w _ _), Lib.hid ((brf w).alloc (Nat.le_refl _) _ |>.mono (Nat.le_of_lt hgl)), Lib.hid (Frm.below (bal (brf w) _))⟩
  case round =>
    clear HM
    obtain ⟨i, hi, rfl, HM, HK, HB, HFr⟩ := hrel
    by_cases hlt : i < n
    · go_wp2_with fail
      go_loopw [7] (fun jv wr => ∃ (j : Nat), j ≤ n ∧ jv = .int .i64 (j : Int) ∧ Hid (MatAt wr p g n n (fun x y => f x y != ((decide (y < i) || (decide (y = i) && decide (x < j))) && maskB 6 x y))) ∧ Hid (Blk wr w.heap.size 164 #[.func (.func 129) #[] #[]]) ∧ Hid (Below g w wr) ∧ Hid (Frm 40 w wr)) (fun jv _ => n - (intOf jv).toNat)
      case atStart => exact ⟨0, by omega, rfl, Lib.hid (HM.out.congr (fun x y _ _ => by simp)), HK, HB, HFr⟩
      case round =>
        clear HM HK HB HFr
        rename World => wj
        obtain ⟨j, hj, rfl, HM, HK, HB, HFr⟩ := hrel
        by_cases hjl : j < n
        · have c0 : wj.cell? ⟨w.heap.size, 0, none⟩ = some (.func (.func 129) #[] #[]) := by rw [HK.out.cell]; rfl
          go_wp2_with fail
          refine (dm_6 j i _ (by omega) (by omega)).mono ?_
          rintro e wj ⟨rfl, rfl⟩
          have hsame : ∀ x y, ¬ (x = j ∧ y = i) → ((decide (y < i) || (decide (y = i) && decide (x < j))) && maskB 6 x y) = ((decide (y < i) || (decide (y = i) && decide (x < j + 1))) && maskB 6 x y) := fun x y h => by
            have e : (decide (y < i) || (decide (y = i) && decide (x < j))) = (decide (y < i) || (decide (y = i) && decide (x < j + 1))) := by
              rw [Bool.eq_iff_iff]; simp only [Bool.or_eq_true, Bool.and_eq_true, decide_eq_true_eq]; omega
            rw [e]
          rcases hmv : maskB 6 j i with _ | _
          · have HM2 : Hid (MatAt wj p g n n (fun x y => f x y != ((decide (y < i) || (decide (y = i) && decide (x < j + 1))) && maskB 6 x y))) := Lib.hid (HM.out.congr (fun x y _ _ => by
              by_cases hxy : x = j ∧ y = i
              · obtain ⟨rfl, rfl⟩ := hxy; rw [hmv]; simp
              · rw [hsame x y hxy]))
            clear HM hmv hsame c0
            go_wp2_with fail
            go_roundw
            case rel => exact ⟨j + 1, by omega, by go_num, HM2, HK, HB, HFr⟩
            case measure => simp [intOf]; omega
          · go_wp2_with fail
            refine (matFlip_any p g n n j i _ _ HM.out hjl hlt (by omega) (by omega)).mono ?_
            rintro e w2 ⟨q, u, rfl, rfl, hm2⟩
            have HM2 : Hid (MatAt (wj.setCell ⟨g, q, none⟩ u) p g n n (fun x y => f x y != ((decide (y < i) || (decide (y = i) && decide (x < j + 1))) && maskB 6 x y))) := Lib.hid (hm2.congr (fun x y _ _ => by
              by_cases hxy : x = j ∧ y = i
              · obtain ⟨rfl, rfl⟩ := hxy; rw [hmv]; simp
              · rw [hsame x y hxy]
                have e2 : (decide (x = j) && decide (y = i)) = false := by rw [Bool.eq_false_iff]; simpa using hxy
                rw [e2]; simp))
            have HK2 : Hid (Blk (wj.setCell ⟨g, q, none⟩ u) w.heap.size 164 #[.func (.func 129) #[] #[]]) := Lib.hid (HK.out.far (by show w.heap.size ≠ g; omega) u)
            have HB2 := Lib.hid (HB.out.setCell (p := ⟨g, q, none⟩) (Nat.le_refl _) u)
            have HFr2 : Hid (Frm 40 w (wj.setCell ⟨g, q, none⟩ u)) := Lib.hid (by obtain ⟨ws, h9, _⟩ := HM.out; exact Frm.put (p := ⟨g, q, none⟩) HFr.out h9.rows u)
            clear hm2 HM HK HB HFr hmv hsame c0
            go_wp2_with fail
            go_roundw
            case rel => exact ⟨j + 1, by omega, by go_num, HM2, HK2, HB2, HFr2⟩
            case measure => simp [intOf]; omega
        · obtain rfl : n = j := by omega
          have HM2 : Hid (MatAt wj p g n n (fun x y => f x y != (decide (y < i + 1) && maskB 6 x y))) := Lib.hid (HM.out.congr (fun x y hx _ => by
            have e : (decide (y < i) || (decide (y = i) && decide (x < n))) = decide (y < i + 1) := by
              rw [Bool.eq_iff_iff]; simp only [Bool.or_eq_true, Bool.and_eq_true, decide_eq_true_eq]; omega
            rw [e]))
          clear HM
          go_wp2_with fail
          go_roundw
          case rel => exact ⟨i + 1, by omega, by go_num, HM2, HK, HB, HFr⟩
          case measure => simp [intOf]; omega
    · obtain rfl : n = i := by omega
      go_wp2_with fail
      refine bodyPost_end (results_none rfl _ _ _) rfl ?_
      exact ⟨rfl, HM.out.congr (fun x y _ hy => by simp [hy]), HB.out, HFr.out⟩
set_option maxRecDepth 100000 in
theorem unmask_7 (p g n : Nat) (f : Nat → Nat → Bool) (w : World) (hm : MatAt w p g n n f) (hn : n ≤ 177) :
    Calls Try.prog 102 #[.agg #[.func (.func 130) #[] #[]], .pointer (some ⟨p, 0, none⟩), .int .i64 n] w fun e w' => e = .returned (.tuple #[]) ∧ MatAt w' p g n n (fun x y => f x y != maskB 7 x y) ∧ Below g w w' ∧ Frm 40 w w' := by
  have HM := Lib.hid hm
  have hgl : g < w.heap.size := by obtain ⟨ws, h, _⟩ := hm; exact h.rows.lt
  clear hm
  go_enter Try.func102, Try.ntmps102
  go_wp2_with fail
  go_loopw [6] (fun iv wr => ∃ (i : Nat), i ≤ n ∧ iv = .int .i64 (i : Int) ∧ Hid (MatAt wr p g n n (fun x y => f x y != (decide (y < i) && maskB 7 x y))) ∧ Hid (Blk wr w.heap.size 164 #[.func (.func 130) #[] #[]]) ∧ Hid (Below g w wr) ∧ Hid (Frm 40 w wr)) (fun iv _ => n - (intOf iv).toNat)
  case atStart => exact ⟨0, by omega, rfl, Lib.hid ((HM.out.up (bal (brf w) _)).congr (fun x y _ _ => by simp)), Lib.hid (Blk.fresh w _ _), Lib.hid ((brf w).alloc (Nat.le_refl _) _ |>.mono (Nat.le_of_lt hgl)), Lib.hid (Frm.below (bal (brf w) _))⟩
  case round =>
    clear HM
    obtain ⟨i, hi, rfl, HM, HK, HB, HFr⟩ := hrel
    by_cases hlt : i < n
    · go_wp2_with fail
      go_loopw [7] (fun jv wr => ∃ (j : Nat), j ≤ n ∧ jv = .int .i64 (j : Int) ∧ Hid (MatAt wr p g n n (fun x y => f x y != ((decide (y < i) || (decide (y = i) && decide (x < j))) && maskB 7 x y))) ∧ Hid (Blk wr w.heap.size 164 #[.func (.func 130) #[] #[]]) ∧ Hid (Below g w wr) ∧ Hid (Frm 40 w wr)) (fun jv _ => n - (intOf jv).toNat)
      case atStart => exact ⟨0, by omega, rfl, Lib.hid (HM.out.congr (fun x y _ _ => by simp)), HK, HB, HFr⟩
      case round =>
        clear HM HK HB HFr
        rename World => wj
        obtain ⟨j, hj, rfl, HM, HK, HB, HFr⟩ := hrel
        by_cases hjl : j < n
        · have c0 : wj.cell? ⟨w.heap.size, 0, none⟩ = some (.func (.func 130) #[] #[]) := by rw [HK.out.cell]; rfl
          go_wp2_with fail
          refine (dm_7 j i _ (by omega) (by omega)).mono ?_
          rintro e wj ⟨rfl, rfl⟩
          have hsame : ∀ x y, ¬ (x = j ∧ y = i) → ((decide (y < i) || (decide (y = i) && decide (x < j))) && maskB 7 x y) = ((decide (y < i) || (decide (y = i) && decide (x < j + 1))) && maskB 7 x y) := fun x y h => by
            have e : (decide (y < i) || (decide (y = i) && decide (x < j))) = (decide (y < i) || (decide (y = i) && decide (x < j + 1))) := by
              rw [Bool.eq_iff_iff]; simp only [Bool.or_eq_true, Bool.and_eq_true, decide_eq_true_eq]; omega
            rw [e]
          rcases hmv : maskB 7 j i with _ | _
          · have HM2 : Hid (MatAt wj p g n n (fun x y => f x y != ((decide (y < i) || (decide (y = i) && decide (x < j + 1))) && maskB 7 x y))) := Lib.hid (HM.out.congr (fun x y _ _ => by
              by_cases hxy : x = j ∧ y = i
              · obtain ⟨rfl, rfl⟩ := hxy; rw [hmv]; simp
              · rw [hsame x y hxy]))
            clear HM hmv hsame c0
            go_wp2_with fail
            go_roundw
            case rel => exact ⟨j + 1, by omega, by go_num, HM2, HK, HB, HFr⟩
            case measure => simp [intOf]; omega
          · go_wp2_with fail
            refine (matFlip_any p g n n j i _ _ HM.out hjl hlt (by omega) (by omega)).mono ?_
            rintro e w2 ⟨q, u, rfl, rfl, hm2⟩
            have HM2 : Hid (MatAt (wj.setCell ⟨g, q, none⟩ u) p g n n (fun x y => f x y != ((decide (y < i) || (decide (y = i) && decide (x < j + 1))) && maskB 7 x y))) := Lib.hid (hm2.congr (fun x y _ _ => by
              by_cases hxy : x = j ∧ y = i
              · obtain ⟨rfl, rfl⟩ := hxy; rw [hmv]; simp
              · rw [hsame x y hxy]
                have e2 : (decide (x = j) && decide (y = i)) = false := by rw [Bool.eq_false_iff]; simpa using hxy
                rw [e2]; simp))
            have HK2 : Hid (Blk (wj.setCell ⟨g, q, none⟩ u) w.heap.size 164 #[.func (.func 130) #[] #[]]) := Lib.hid (HK.out.far (by show w.heap.size ≠ g; omega) u)
            have HB2 := Lib.hid (HB.out.setCell (p := ⟨g, q, none⟩) (Nat.le_refl _) u)
            have HFr2 : Hid (Frm 40 w (wj.setCell ⟨g, q, none⟩ u)) := Lib.hid (by obtain ⟨ws, h9, _⟩ := HM.out; exact Frm.put (p := ⟨g, q, none⟩) HFr.out h9.rows u)
            clear hm2 HM HK HB HFr hmv hsame c0
            go_wp2_with fail
            go_roundw
            case rel => exact ⟨j + 1, by omega, by go_num, HM2, HK2, HB2, HFr2⟩
            case measure => simp [intOf]; omega
        · obtain rfl : n = j := by omega
          have HM2 : Hid (MatAt wj p g n n (fun x y => f x y != (decide (y < i + 1) && maskB 7 x y))) := Lib.hid (HM.out.congr (fun x y hx _ => by
            have e : (decide (y < i) || (decide (y = i) && decide (x < n))) = decide (y < i + 1) := by
              rw [Bool.eq_iff_iff]; simp only [Bool.or_eq_true, Bool.and_eq_true, decide_eq_true_eq]; omega
            rw [e]))
          clear HM
          go_wp2_with fail
          go_roundw
          case rel => exact ⟨i + 1, by omega, by go_num, HM2, HK, HB, HFr⟩
          case measure => simp [intOf]; omega
    · obtain rfl : n = i := by omega
      go_wp2_with fail
      refine bodyPost_end (results_none rfl _ _ _) rfl ?_
      exact ⟨rfl, HM.out.congr (fun x y _ hy => by simp [hy]), HB.out, HFr.out⟩
/-- DataMask.UnmaskBitMatrix, of any of the eight masks. -/
theorem unmask_any (m p g n : Nat) (f : Nat → Nat → Bool) (w : World) (hm8 : m < 8) (hm : MatAt w p g n n f) (hn : n ≤ 177) :
    Calls Try.prog 102 #[.agg #[maskVs.getD m undef], .pointer (some ⟨p, 0, none⟩), .int .i64 n] w fun e w' => e = .returned (.tuple #[]) ∧ MatAt w' p g n n (fun x y => f x y != maskB m x y) ∧ Below g w w' ∧ Frm 40 w w' := by
  have h : m = 0 ∨ m = 1 ∨ m = 2 ∨ m = 3 ∨ m = 4 ∨ m = 5 ∨ m = 6 ∨ m = 7 := by omega
  rcases h with rfl | rfl | rfl | rfl | rfl | rfl | rfl | rfl
  · exact unmask_0 p g n f w hm hn
  · exact unmask_1 p g n f w hm hn
  · exact unmask_2 p g n f w hm hn
  · exact unmask_3 p g n f w hm hn
  · exact unmask_4 p g n f w hm hn
  · exact unmask_5 p g n f w hm hn
  · exact unmask_6 p g n f w hm hn
  · exact unmask_7 p g n f w hm hn
end Go.Proofs.Ytfgajbhgkdkmbaa
