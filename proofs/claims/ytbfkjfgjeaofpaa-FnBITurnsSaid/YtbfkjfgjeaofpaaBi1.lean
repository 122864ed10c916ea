/-
  WALKS: bytes of a BitArray.
-/
import Derived.Test.YtbfkjfgjeaofpaaBa2
namespace Go.Proofs.Ytbfkjfgjeaofpaa
open Go.RowKit

/-- The number that j bits from a place on make, the highest first. -/
def byN (l : List Bool) (at_ : Nat) : Nat → Nat
  | 0 => 0
  | j + 1 => 2 * byN l at_ j + (if l.getD (at_ + j) false = true then 1 else 0)
theorem byN_lt (l : List Bool) (at_ j : Nat) : byN l at_ j < 2 ^ j := by
  induction j with
  | zero => exact Nat.one_pos
  | succ j ih => unfold byN; rw [Nat.pow_succ]; split <;> omega
theorem u8_of (a : Nat) (ha : a < 256) : (BitVec.ofInt 8 (a : Int)).toNat = a := by
  rw [BitVec.ofInt_natCast, BitVec.toNat_ofNat]; exact Nat.mod_eq_of_lt (by omega)
theorem u8_or' (a b : Nat) (ha : a < 256) (hb : b < 256) : bits .or .u8 (a : Int) (b : Int) = ((a ||| b : Nat) : Int) := by
  have hx : a ||| b < 2 ^ 8 := Nat.or_lt_two_pow (by omega) (by omega)
  show IntKind.u8.wrap ((BitVec.ofInt 8 (a : Int) ||| BitVec.ofInt 8 (b : Int)).toNat : Int) = _
  rw [BitVec.toNat_or, u8_of a ha, u8_of b hb, IntKind.wrap_u8]
  omega
theorem pow8 (k : Nat) (h : k < 8) : (2 : Int) ^ k % 256 = ((2 ^ k : Nat) : Int) := by
  have h2 : 2 ^ k < 256 := Nat.pow_lt_pow_right (n := 8) (by decide) h
  have e : (2 : Int) ^ k = ((2 ^ k : Nat) : Int) := by simp
  rw [e]
  generalize 2 ^ k = q at *
  omega
theorem byte_step (n j : Nat) (hj : j < 8) : (n * 2 ^ (8 - j)) ||| 2 ^ (7 - j) = (2 * n + 1) * 2 ^ (7 - j) := by
  have e : 8 - j = (7 - j) + 1 := by omega
  have h := Nat.two_pow_add_eq_or_of_lt (i := 8 - j) (b := 2 ^ (7 - j)) (Nat.pow_lt_pow_right (by decide) (by omega)) n
  rw [Nat.mul_comm n, ← h, e, Nat.pow_succ]
  generalize 2 ^ (7 - j) = q
  rw [Nat.add_mul, Nat.one_mul, Nat.mul_comm q 2, Nat.mul_assoc, Nat.mul_assoc, Nat.mul_comm q n]
theorem byte_skip (n j : Nat) (hj : j < 8) : n * 2 ^ (8 - j) = (2 * n + 0) * 2 ^ (7 - j) := by
  have e : 8 - j = (7 - j) + 1 := by omega
  rw [e, Nat.pow_succ, Nat.add_zero, Nat.mul_comm _ 2, Nat.mul_comm 2 n, Nat.mul_assoc]
/-- Byte i of those from a place on. -/
def byV (l : List Bool) (off i : Nat) : Value := .int .u8 (byN l (off + 8 * i) 8 : Nat)
def byVs (l : List Bool) (off many : Nat) : List Value := (List.range many).map (byV l off)
theorem byVs_len (l : List Bool) (off many : Nat) : (byVs l off many).length = many := by simp [byVs]
theorem byVs_of (l : List Bool) (off many : Nat) (cs : Array Value) (hs : cs.size = many) (h : ∀ j, j < many → cs[j]? = some (byV l off j)) : cs = (byVs l off many).toArray := by
  apply Array.ext_getElem?
  intro j
  rcases Nat.lt_or_ge j many with hj | hj
  · rw [h j hj]; simp [byVs, hj]
  · rw [Array.getElem?_eq_none (by omega), Array.getElem?_eq_none (by simp [byVs, hj])]

theorem BitAt.far2 {w : World} {p g : Nat} {ws : List Nat} {size gb : Nat} (h : BitAt w p g ws size) (hp : p ≠ gb) (hg : g ≠ gb) (v : Value) (k : Nat) : BitAt (w.setCell ⟨gb, k, none⟩ v) p g ws size :=
  ⟨h.head.far hp _, h.rows.far hg _, h.lt, h.len, h.apart⟩
/-- (*BitArray).ToBytes, into a row of as many bytes. -/
theorem toBytes_any (p g gb size off many : Nat) (ws : List Nat) (l : List Bool) (w : World) (h : BitAt w p g ws size) (hl : ∀ i, i < size → (ws.getD (i / 32) 0).testBit (i % 32) = l.getD i false)
    (hoff : off + 8 * many ≤ size) (hs : size ≤ 16384) (hb : Blk w gb 5 (rep many (.int .u8 0))) (hp : p ≠ gb) (hg : g ≠ gb) :
    Calls Try.prog 24 #[.pointer (some ⟨p, 0, none⟩), .int .i64 off, .slice (some ⟨gb, 0, none⟩) many many, .int .i64 0, .int .i64 many] w fun e w' =>
      e = .returned (.tuple #[]) ∧ Blk w' gb 5 (byVs l off many).toArray ∧ Below gb w w' := by
  have HL := Lib.hid hl; clear hl
  have HX := Lib.hid h; clear h
  have HB := Lib.hid hb; clear hb
  go_enter Try.func24, Try.ntmps24
  go_wp2
  go_loopw [1, 10] (fun o i wr => ∃ (k : Nat) (cs : Array Value), k ≤ many ∧ i = .int .i64 k ∧ o = .int .i64 ((off + 8 * k : Nat) : Int) ∧ Hid (BitAt wr p g ws size) ∧ Hid (Blk wr gb 5 cs) ∧ Hid (cs.size = many) ∧ Hid (∀ j, j < k → cs[j]? = some (byV l off j)) ∧ Hid (Below gb w wr)) (fun _ i _ => many - (intOf i).toNat)
  case atStart => exact ⟨0, rep many (.int .u8 0), Nat.zero_le _, rfl, by simp, HX, HB, Lib.hid (rep_size _ _), Lib.hid (fun j hj => absurd hj (by omega)), Lib.hid (Below.refl _ _)⟩
  case round =>
    obtain ⟨k, cs, hk, rfl, rfl, HX1, HB1, HZ, HC, HW⟩ := hrel
    clear HX HB
    by_cases hlt : k < many
    · go_wp2
      obtain ⟨wo, rfl⟩ : ∃ wo : World, wo = wr := ⟨_, rfl⟩
      go_loopw [1, 11, 12] (fun o b j wr => ∃ (m y : Nat), m ≤ 8 ∧ j = .int .i64 m ∧ o = .int .i64 ((off + 8 * k + m : Nat) : Int) ∧ b = .int .u8 y ∧ Hid (y = byN l (off + 8 * k) m * 2 ^ (8 - m)) ∧ wr = wo) (fun _ _ j _ => 8 - (intOf j).toNat)
      case atStart => exact ⟨0, 0, by omega, rfl, by simp, rfl, Lib.hid (by simp [byN]), rfl⟩
      case round =>
        obtain ⟨m, y, hm, rfl, rfl, rfl, HY, rfl⟩ := hrel
        by_cases hm8 : m < 8
        · have hbit := HL.out (off + 8 * k + m) (by omega)
          have hstep : byN l (off + 8 * k) (m + 1) = 2 * byN l (off + 8 * k) m + (if l.getD (off + 8 * k + m) false = true then 1 else 0) := rfl
          have hby := byN_lt l (off + 8 * k) m
          have HS := Lib.hid hstep
          clear hstep
          generalize l.getD (off + 8 * k + m) false = x at *
          rcases x
          · have HN : Hid (y = byN l (off + 8 * k) (m + 1) * 2 ^ (8 - (m + 1))) := Lib.hid (by rw [HS.out, HY.out, if_neg (by decide), show 8 - (m + 1) = 7 - m by omega]; exact byte_skip _ _ hm8)
            clear hby HS
            go_wp2_with fail
            refine (get_any p g ws size (off + 8 * k + m) _ HX1.out (by omega) hs).mono ?_
            rintro e w1 ⟨rfl, rfl⟩
            rw [hbit]
            go_wp2
            go_roundw
            case rel => exact ⟨m + 1, y, by omega, by go_num, by go_num, rfl, HN, trivial⟩
            case measure => simp [intOf]; omega
          · have hy : y < 256 := by
              rw [HY.out]
              have e8 : 2 ^ m * 2 ^ (8 - m) = 256 := by rw [← Nat.pow_add, show m + (8 - m) = 8 by omega]
              have := Nat.mul_lt_mul_of_pos_right hby (Nat.two_pow_pos (8 - m))
              omega
            have HE : Hid (y ||| 2 ^ (7 - m) = byN l (off + 8 * k) (m + 1) * 2 ^ (8 - (m + 1))) := Lib.hid (by rw [HS.out, HY.out, if_pos rfl, show 8 - (m + 1) = 7 - m by omega]; exact byte_step _ _ hm8)
            have hq : 2 ^ (7 - m) < 256 := Nat.pow_lt_pow_right (n := 8) (by decide) (by omega)
            have e3 : bits .or .u8 (y : Int) ((2 : Int) ^ (7 - m) % 256) = ((y ||| 2 ^ (7 - m) : Nat) : Int) := by
              rw [pow8 (7 - m) (by omega)]
              exact u8_or' y (2 ^ (7 - m)) hy hq
            clear hby HS hq
            generalize (y ||| 2 ^ (7 - m)) = z at *
            go_wp2_with fail
            refine (get_any p g ws size (off + 8 * k + m) _ HX1.out (by omega) hs).mono ?_
            rintro e w1 ⟨rfl, rfl⟩
            rw [hbit]
            go_wp2
            go_roundw
            case rel => exact ⟨m + 1, _, by omega, by go_num, by go_num, rfl, HE, trivial⟩
            case measure => simp [intOf]; omega
        · obtain rfl : m = 8 := by omega
          have HY' : Hid (y = byN l (off + 8 * k) 8) := Lib.hid (by rw [HY.out]; simp)
          have f1 := HB1.out.frozen k
          have c1 : wr.cell? ⟨gb, k, none⟩ = cs[k]? := HB1.out.cell k
          have hk2 : k < cs.size := by rw [HZ.out]; exact hlt
          rw [Array.getElem?_eq_getElem hk2] at c1
          have HN := Lib.hid (HB1.out.put k (.int .u8 y))
          have HX2 := Lib.hid (HX1.out.far2 hp hg (.int .u8 y) k)
          generalize cs[k] = old at *
          go_wp2
          go_roundw
          case rel =>
            refine ⟨k + 1, cs.setIfInBounds k (.int .u8 y), by omega, by go_num, by go_num, HX2, HN, Lib.hid (by rw [Array.size_setIfInBounds]; exact HZ.out), Lib.hid (fun j hj => ?_), Lib.hid (HW.out.setCell (p := ⟨gb, k, none⟩) (Nat.le_refl _) _)⟩
            by_cases hjk : j = k
            · subst hjk
              rw [Array.getElem?_setIfInBounds_self_of_lt hk2, HY'.out]; rfl
            · rw [Array.getElem?_setIfInBounds_ne (fun h => hjk h.symm)]
              exact HC.out j (by omega)
          case measure => simp [intOf]; omega
    · obtain rfl : k = many := by omega
      go_wp2
      refine bodyPost_end (results_none rfl _ _ _) rfl ?_
      exact ⟨rfl, by rw [← byVs_of l off k cs HZ.out HC.out]; exact HB1.out, HW.out⟩
end Go.Proofs.Ytbfkjfgjeaofpaa
