/-
  WALKS: the words of a mode message, and words as one number.
-/
import Derived.Test.YtibdeekgcbmofaaKh1
namespace Go.Proofs.Ytibdeekgcbmofaa
open Go.RowKit

def FM : Gf.Fd := ⟨19, 4, 1⟩
theorem FM_ok : Gf.Ok FM := Gf.ok_of_mem (by simp [Gf.fields, FM])
def mAll (c : Bool) : Nat := if c then 7 else 10
def mMany (c : Bool) : Nat := if c then 2 else 4
def wAt (data k : Nat) : Nat := data / 2 ^ (4 * k) % 16
def mwF (many data t : Nat) : List Nat := (List.range t).map fun j => wAt data (many - 1 - j)
theorem mwF_len (many data t : Nat) : (mwF many data t).length = t := by simp [mwF]
theorem mwF_succ (many data t : Nat) : mwF many data (t + 1) = mwF many data t ++ [wAt data (many - 1 - t)] := by
  unfold mwF
  rw [List.range_succ, List.map_append]; rfl
theorem wAt_lt (data k : Nat) : wAt data k < 16 := Nat.mod_lt _ (by decide)
theorem mwF_lt (many data t : Nat) : ∀ x ∈ mwF many data t, x < FM.s := fun x hx => by
  obtain ⟨j, _, rfl⟩ := List.mem_map.1 hx
  exact wAt_lt _ _
def joinN : Nat → List Nat → Nat
  | out, [] => out
  | out, x :: r => joinN (16 * out + x) r
theorem joinN_snoc : ∀ (l : List Nat) (out x : Nat), joinN out (l ++ [x]) = 16 * joinN out l + x
  | [], _, _ => rfl
  | y :: l, out, x => joinN_snoc l (16 * out + y) x
theorem joinN_lt : ∀ (l : List Nat) (out b : Nat), (∀ x ∈ l, x < 16) → out < b → joinN out l < b * 16 ^ l.length
  | [], out, b, _, h => by simpa [joinN] using h
  | x :: l, out, b, hx, h => by
    have h1 := hx x (List.mem_cons_self ..)
    have h2 := joinN_lt l (16 * out + x) (b * 16) (fun z hz => hx z (List.mem_cons_of_mem _ hz)) (by omega)
    rw [List.length_cons, Nat.pow_succ, Nat.mul_comm (16 ^ l.length) 16, ← Nat.mul_assoc]
    exact h2
theorem joinN_mw (data : Nat) : ∀ (t many : Nat), t ≤ many → data < 16 ^ many → joinN 0 (mwF many data t) = data / 2 ^ (4 * (many - t))
  | 0, many, _, h => by
    have e : (2 : Nat) ^ (4 * (many - 0)) = 16 ^ many := by rw [Nat.sub_zero, Nat.pow_mul]
    rw [e, Nat.div_eq_of_lt h]; rfl
  | t + 1, many, ht, h => by
    rw [mwF_succ, joinN_snoc, joinN_mw data t many (by omega) h]
    obtain ⟨k, hk⟩ : ∃ k, many - (t + 1) = k := ⟨_, rfl⟩
    have h1 : many - t = k + 1 := by omega
    have h2 : many - 1 - t = k := by omega
    rw [hk, h1, h2]
    unfold wAt
    have e : (2 : Nat) ^ (4 * (k + 1)) = 2 ^ (4 * k) * 16 := by rw [Nat.mul_succ, Nat.pow_add]
    rw [e, ← Nat.div_div_eq_div_mul]
    omega
theorem sizes_any (c : Bool) (w : World) : Calls Try.prog 10 #[.bool c] w fun e w' => e = .returned (.tuple #[.int .i64 (mAll c), .int .i64 (mMany c)]) ∧ w' = w := by
  cases c
  · go_enter Try.func10, Try.ntmps10
    go_wp2
    go_ret2
    exact ⟨rfl, rfl⟩
  · go_enter Try.func10, Try.ntmps10
    go_wp2
    go_ret2
    exact ⟨rfl, rfl⟩
theorem mField_any (w : World) : Calls Try.prog 5 #[] w fun e w' => e = .returned (.agg #[.int .i64 19, .int .i64 16, .int .i64 1]) ∧ Below w.heap.size w w' := by
  go_enter Try.func5, Try.ntmps5
  go_wp2
  go_returns
  exact ⟨rfl, by go_grown⟩
theorem mostWrong_any (c : Bool) (w : World) : Calls Try.prog 7 #[.bool c] w fun e w' => e = .returned (.int .i64 (((mAll c - mMany c) / 2 : Nat) : Int)) ∧ w' = w := by
  cases c
  · go_enter Try.func7, Try.ntmps7
    go_wp2_with fail
    refine (sizes_any false w).mono ?_
    rintro e w1 ⟨rfl, rfl⟩
    simp only [mAll, mMany]
    go_wp2
    go_ret
    exact ⟨rfl, rfl⟩
  · go_enter Try.func7, Try.ntmps7
    go_wp2_with fail
    refine (sizes_any true w).mono ?_
    rintro e w1 ⟨rfl, rfl⟩
    simp only [mAll, mMany]
    go_wp2
    go_ret
    exact ⟨rfl, rfl⟩

set_option maxRecDepth 100000 in
set_option maxHeartbeats 2000000 in
theorem joined_any (v : Value) (l : List Nat) (w : World) (hv : Rd w w.heap.size v (nv l)) (hl : ∀ x ∈ l, x < 16) (h10 : l.length ≤ 10) :
    Calls Try.prog 9 #[v] w fun e w' => e = .returned (.int .i64 ((joinN 0 l : Nat) : Int)) ∧ Below w.heap.size w w' := by
  obtain ⟨A, ca, rfl, ha1, ha2, ha3⟩ := hv
  simp only [nv_len] at *
  unfold maxLen at ha2
  have HL := Lib.hid hl; clear hl
  have HA := Lib.hid ha3; clear ha3
  obtain ⟨J, hJ⟩ : ∃ J, J = joinN 0 l := ⟨_, rfl⟩
  rw [← hJ]
  have HJ0 : Hid (joinN 0 (l.drop 0) = J) := Lib.hid hJ.symm; clear hJ
  go_enter Try.func9, Try.ntmps9
  go_wp2
  go_loopw [3, 4] (fun ov iv wr => ∃ (out i : Nat), i ≤ l.length ∧ out < 1099511627776 ∧ ov = .int .i64 out ∧ iv = .int .i64 i ∧ Hid (out < 16 ^ i) ∧ Hid (joinN out (l.drop i) = J) ∧ Hid (Below w.heap.size w wr)) (fun _ iv _ => l.length - (intOf iv).toNat)
  case atStart => exact ⟨0, 0, Nat.zero_le _, by decide, rfl, rfl, Lib.hid (by decide), HJ0, Lib.hid (brf w)⟩
  case round =>
    clear HJ0
    obtain ⟨out, i, hi, ho, rfl, rfl, HO, HJ, HW⟩ := hrel
    by_cases hlt : i < l.length
    · obtain ⟨ba, oa, rfl, hba, hca⟩ := HA.out (by omega)
      have cA : wr.cell? ⟨ba, oa + i, none⟩ = some (.int .i64 ((l[i] : Nat) : Int)) := cell_up (hca i _ (nv_at l i hlt)) HW.out
      have hx := HL.out _ (List.getElem_mem hlt)
      have hd : l.drop i = l[i] :: l.drop (i + 1) := List.drop_eq_getElem_cons hlt
      have hJ := HJ.out
      rw [hd] at hJ
      have hp : (16 : Nat) ^ (i + 1) ≤ 16 ^ 10 := Nat.pow_le_pow_right (by decide) (by omega)
      have hO := HO.out
      have hp1 : (16 : Nat) ^ (i + 1) = 16 ^ i * 16 := Nat.pow_succ ..
      have hnew : 16 * out + l[i] < 16 ^ (i + 1) := by omega
      have hnb : 16 * out + l[i] < 1099511627776 := Nat.lt_of_lt_of_le hnew hp
      clear hca hd hp hp1 hO
      generalize l[i] = x at *
      have hJ2 : joinN (16 * out + x) (l.drop (i + 1)) = J := hJ
      have HJN := Lib.hid hJ2
      have HON := Lib.hid hnew
      clear hJ hJ2 hnew
      go_wp2
      go_roundw
      case rel => exact ⟨16 * out + x, i + 1, by omega, hnb, by go_num, by go_num, HON, HJN, HW⟩
      case measure => simp [intOf]; omega
    · obtain rfl : i = l.length := by omega
      have hJ : out = J := by
        have h9 := HJ.out
        rw [List.drop_length] at h9
        exact h9
      subst hJ
      go_wp2
      go_ret
      exact ⟨rfl, HW.out⟩

theorem wAt_bits (data k : Nat) (hd : data < 65536) : bits .and .i64 ((data : Int) / (2 : Int) ^ (4 * k)) 15 = ((wAt data k : Nat) : Int) := by
  have e : (data : Int) / (2 : Int) ^ (4 * k) = ((data / 2 ^ (4 * k) : Nat) : Int) := by push_cast; rfl
  have hl : data / 2 ^ (4 * k) < 9223372036854775808 := Nat.lt_of_le_of_lt (Nat.div_le_self _ _) (by omega)
  rw [e]
  have h1 : bits .and .i64 ((data / 2 ^ (4 * k) : Nat) : Int) 15 = ((data / 2 ^ (4 * k) &&& 15 : Nat) : Int) := i64_and (data / 2 ^ (4 * k)) 15 hl (by decide)
  rw [h1]
  congr 1
  exact Nat.and_two_pow_sub_one_eq_mod _ 4
set_option maxRecDepth 100000 in
set_option maxHeartbeats 2000000 in
theorem modeWords_any (c : Bool) (data : Nat) (hd : data < 65536) (w : World) :
    Calls Try.prog 6 #[.bool c, .int .i64 data] w fun e w' => ∃ v, e = .returned v ∧ RdT w' 3 v (nv (Gf.enc FM (mAll c - mMany c) (mwF (mMany c) data (mMany c)))) ∧ Below w.heap.size w w' := by
  obtain ⟨i0, hi0, hz0, hz1, hz2⟩ := info_parts info_int
  have hm : mMany c ≤ 4 ∧ 2 ≤ mMany c ∧ mAll c ≤ 10 ∧ mMany c < mAll c := by cases c <;> decide
  obtain ⟨N, hN⟩ : ∃ N, N = mAll c := ⟨_, rfl⟩
  obtain ⟨M, hM⟩ : ∃ M, M = mMany c := ⟨_, rfl⟩
  have hsz := fun w => sizes_any c w
  rw [← hN, ← hM] at hm hsz ⊢
  obtain ⟨m1, m2, m3, m4⟩ := hm
  have HS := Lib.hid hsz
  clear hsz hN hM
  go_enter Try.func6, Try.ntmps6
  go_wp2_with fail
  refine (HS.out w).mono ?_
  rintro e w1 ⟨rfl, rfl⟩
  go_wp2_with fail
  go_loopw [7, 8] (fun v7 v8 wr => ∃ (k t : Nat) (i : Int), k + t = M ∧ v8 = .int .i64 i ∧ Hid (i = (k : Int) - 1) ∧ Hid (wr.ownsRow w1.heap.size 3 1 v7 t (nv (mwF M data t))) ∧ Hid (Below w1.heap.size w1 wr)) (fun _ v8 _ => ((intOf v8) + 1).toNat)
  case atStart => exact ⟨M, 0, (M : Int) - 1, rfl, rfl, Lib.hid rfl, Lib.hid (own_nil _ _ _), Lib.hid (brf w1)⟩
  case round =>
    obtain ⟨k, t, i, hkt, rfl, HI, HO, HW⟩ := hrel
    cases k with
    | zero =>
      obtain rfl : i = -1 := HI.out
      obtain rfl : t = M := by omega
      obtain ⟨R, hR⟩ : ∃ R : Nat, (N : Int) - (t : Int) = (R : Int) := ⟨N - t, by omega⟩
      have hRn : N - t = R := by omega
      have HRN := Lib.hid hRn
      clear hRn
      have hR1 : 0 < R := by omega
      have hR4 : R ≤ 10 := by omega
      have hE : ∀ W : World, Rd W W.heap.size u7 (nv (mwF t data t)) → Calls Try.prog 11 #[.agg #[.int .i64 19, .int .i64 16, .int .i64 1], u7, .int .i64 (R : Int)] W fun e w' => ∃ v, e = .returned v ∧ RdT w' 3 v (nv (Gf.enc FM R (mwF t data t))) ∧ Below W.heap.size W w' := fun W h =>
        rsEncode_any FM FM_ok (by decide) (by decide) u7 (mwF t data t) R W h (mwF_lt t data t) (by rw [mwF_len]; omega) (by rw [mwF_len]; omega) hR1 (by omega)
      have HE := Lib.hid hE; clear hE
      clear HI hkt
      go_wp2_with fail
      refine (mField_any wr).mono ?_
      rintro e w2 ⟨rfl, hb2⟩
      have HB2 := Lib.hid (bup HW.out hb2)
      have HRD := Lib.hid ((RdT.of_own HO.out).up hb2); clear hb2
      go_wp2_with fail
      refine (HE.out w2 HRD.out.rd).mono ?_
      rintro e w3 ⟨v, rfl, hv, hb3⟩
      go_wp2
      go_ret
      exact ⟨v, rfl, by rw [HRN.out]; exact hv, bup HB2.out hb3⟩
    | succ k =>
      obtain rfl : i = (k : Int) := by have := HI.out; omega
      have hk4 : k < 4 := by omega
      have hwa := wAt_bits data k hd
      have hwl := wAt_lt data k
      have hmw := mwF_succ M data t
      rw [show M - 1 - t = k by omega] at hmw
      generalize wAt data k = x at *
      have HMW := Lib.hid hmw; clear hmw
      have hsz := HW.out.size
      have ht8 : t ≤ 4 := by omega
      go_wp2_with (at_builtin; refine list_app_rd _ rfl _ _ 24 rfl w1.heap.size 3 i0 _ 8 Try.underlying24 hi0 hz0 hz1 hz2 rfl _ t (nv (mwF M data t)) rfl (HO.out.alloc _) _ _ [.int .i64 (x : Int)] rfl (Rd.one rfl 3 (.int .i64 (x : Int))) (fun u hu => by rw [List.mem_singleton] at hu; rw [hu]; rfl) (by simp only [List.length_singleton]; unfold maxLen; omega) (by simp only [List.length_singleton]; omega) (Nat.le_trans hsz (by simp)) ?_; intro v5 w5 ho5 hg5)
      have HB5 := Lib.hid (below_grown (bal HW.out (.cells #[.int .i64 (x : Int)] 3)) hg5 (HO.out.alloc _) (Nat.le_trans hsz (by simp)))
      have hnx : nv (mwF M data t) ++ [.int .i64 (x : Int)] = nv (mwF M data (t + 1)) := by rw [HMW.out]; simp [nv]
      rw [List.length_singleton, hnx] at ho5
      have HO5 := Lib.hid ho5; clear ho5 hg5 hnx
      go_wp2
      go_roundw
      case rel => exact ⟨k, t + 1, (k : Int) - 1, by omega, rfl, Lib.hid rfl, HO5, HB5⟩
      case measure => simp [intOf]
end Go.Proofs.Ytibdeekgcbmofaa
