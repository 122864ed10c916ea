/-
  WALKS: the small functions over numbers of a field: elements, products by bits, lists that are compared; what each returns is told by plain functions (Gf).
-/
import Derived.Test.YtibdeekgcbmofaaBase
import Derived.Test.YtibdeekgcbmofaaGf
import Derived.BigQuiet
import Derived.Deep.RegionHeld3
import Derived.Deep.AppendLies
namespace Go.Proofs.Ytibdeekgcbmofaa
open Go.RowKit

/-- Natural numbers as ints. -/
def nv (xs : List Nat) : List Value := xs.map fun n : Nat => Value.int .i64 (n : Int)
theorem nv_len (xs : List Nat) : (nv xs).length = xs.length := by simp [nv]
theorem nv_at (xs : List Nat) (i : Nat) (h : i < xs.length) : (nv xs)[i]? = some (.int .i64 ((xs[i] : Nat) : Int)) := by simp [nv, h]
theorem nv_append (xs ys : List Nat) : nv (xs ++ ys) = nv xs ++ nv ys := by simp [nv]

theorem tmod_fix (n s : Int) (hs : 0 < s) : (n.tmod s < 0 → n.tmod s + s = n % s) ∧ (¬ n.tmod s < 0 → n.tmod s = n % s) ∧ 0 ≤ n % s ∧ n % s < s := by
  have h1 := Int.emod_nonneg n (b := s) (by omega)
  have h2 := Int.emod_lt_of_pos n hs
  refine ⟨fun h => ?_, fun h => ?_, h1, h2⟩ <;> rw [Int.tmod_eq_emod] at h ⊢ <;> have h3 : (s.natAbs : Int) = s := by omega
  · split at h <;> rename_i h0
    · simp at h; omega
    · rw [if_neg h0, h3]; omega
  · split at h <;> rename_i h0
    · rw [if_pos h0]; omega
    · rw [h3] at h; omega

/-- The bit at the head of a round that has j more to come. -/
def bitAt : Nat → Nat
  | 0 => 0
  | j + 1 => 2 ^ j
theorem bitAt_half (j : Nat) : bitAt (j + 1) / 2 = bitAt j := by
  cases j with
  | zero => rfl
  | succ j => show 2 ^ (j + 1) / 2 = 2 ^ j; rw [Nat.pow_succ]; omega
theorem times_any (F : Gf.Fd) (hF : Gf.Ok F) (h12 : F.m ≤ 12) (a b : Nat) (w : World) (ha : a < F.s) (hb : b < F.s) :
    Calls Try.prog 20 #[.agg #[.int .i64 F.p, .int .i64 F.s, .int .i64 F.b], .int .i64 a, .int .i64 b] w fun e w' => e = .returned (.int .i64 (Gf.mul F a b)) ∧ Below w.heap.size w w' := by
  have hs4 := Gf.s_ge4 hF
  have hs12 : F.s ≤ 4096 := by unfold Gf.Fd.s; exact Nat.pow_le_pow_right (n := 2) (i := F.m) (j := 12) (by decide) h12
  have hp := hF.hi
  have ehalf : (F.s : Int) / 2 = ((bitAt F.m : Nat) : Int) := by
    have hsm := Gf.s_split hF
    have h2 := hF.m2
    have e : bitAt F.m = 2 ^ (F.m - 1) := by
      obtain ⟨m, hm⟩ : ∃ m, F.m = m + 1 := ⟨F.m - 1, by omega⟩
      rw [hm]; rfl
    rw [e, hsm]; omega
  have HH := Lib.hid ehalf; clear ehalf
  have HF := Lib.hid hF; clear hF
  go_enter Try.func20, Try.ntmps20
  go_wp2
  rw [HH.out]
  go_loopw [7, 8] (fun o t wr => ∃ j out q : Nat, out < F.s ∧ q ≤ 4096 ∧ o = .int .i64 out ∧ t = .int .i64 q ∧ Hid (q = bitAt j) ∧ Hid (Gf.mulLoop F a b j out = Gf.mul F a b) ∧
      wr = (w.alloc (.cells #[.int .i64 F.p, .int .i64 F.s, .int .i64 F.b] 27))) (fun _ t _ => (intOf t).toNat)
  case atStart =>
    refine ⟨F.m, 0, bitAt F.m, by omega, ?_, rfl, rfl, rfl, rfl, rfl⟩
    have := HH.out; omega
  case round =>
    obtain ⟨j, out, q, ho, hq, rfl, rfl, HQ, HM, rfl⟩ := hrel
    by_cases hz : 0 < q
    · obtain ⟨i, rfl⟩ : ∃ i, j = i + 1 := by
        cases j with
        | zero => have := HQ.out; simp [bitAt] at this; omega
        | succ i => exact ⟨i, rfl⟩
      have ex1 : bits .xor .i64 ((out : Int) * 2) (F.p : Int) = ((2 * out ^^^ F.p : Nat) : Int) := by
        have := i64_xor (2 * out) F.p (by omega) (by omega)
        rw [← this]; congr 1; omega
      have hx1 := Gf.step_lt HF.out ho
      have ex2 : bits .xor .i64 ((Gf.step F out : Nat) : Int) (a : Int) = ((Gf.step F out ^^^ a : Nat) : Int) := i64_xor _ _ (by omega) (by omega)
      have hx2 : Gf.step F out ^^^ a < F.s := Nat.xor_lt_two_pow hx1 ha
      have hstep : Gf.step F out = if F.s ≤ 2 * out then 2 * out ^^^ F.p else 2 * out := rfl
      have hml : Gf.mulLoop F a b (i + 1) out = Gf.mulLoop F a b i (if b / 2 ^ i % 2 = 1 then Gf.step F out ^^^ a else Gf.step F out) := rfl
      have HQ' := HQ.out
      have hqe : q = 2 ^ i := HQ'
      have hq2 : q / 2 = bitAt i := by rw [HQ']; exact bitAt_half i
      rw [hml, ← hqe] at HM
      have HQ2 := Lib.hid hq2
      clear hq2 hqe HQ' hml
      have hc : ((b : Int) / (q : Int) % 2 == 1) = decide (b / q % 2 = 1) := by
        rw [Bool.eq_iff_iff, beq_iff_eq, decide_eq_true_eq]; omega
      have hd0 : 0 ≤ (b : Int) / (q : Int) := Int.ediv_nonneg (by omega) (by omega)
      have hd1 : (b : Int) / (q : Int) ≤ 4096 := Int.le_trans (Int.ediv_le_self _ (by omega)) (by omega)
      generalize Gf.step F out = so at *
      have HSo := Lib.hid hstep; clear hstep
      by_cases h1 : F.s ≤ 2 * out
      · have e1 : ((2 * out ^^^ F.p : Nat) : Int) = (so : Int) := by rw [HSo.out, if_pos h1]
        rw [e1] at ex1
        by_cases h2 : b / q % 2 = 1
        · rw [decide_eq_true h2] at hc
          clear e1 HSo
          go_wp2
          go_roundw
          case rel => exact ⟨i, _, q / 2, hx2, by omega, rfl, by go_num, HQ2, by rw [if_pos h2] at HM; exact HM, trivial⟩
          case measure => simp [intOf]; omega
        · rw [decide_eq_false h2] at hc
          clear e1 HSo ex2
          go_wp2
          go_roundw
          case rel => exact ⟨i, _, q / 2, hx1, by omega, rfl, by go_num, HQ2, by rw [if_neg h2] at HM; exact HM, trivial⟩
          case measure => simp [intOf]; omega
      · have e1 : (out : Int) * 2 = (so : Int) := by rw [HSo.out, if_neg h1]; omega
        clear ex1
        by_cases h2 : b / q % 2 = 1
        · rw [decide_eq_true h2] at hc
          clear HSo
          go_wp2
          go_roundw
          case rel => exact ⟨i, _, q / 2, hx2, by omega, rfl, by go_num, HQ2, by rw [if_pos h2] at HM; exact HM, trivial⟩
          case measure => simp [intOf]; omega
        · rw [decide_eq_false h2] at hc
          clear HSo ex2
          go_wp2
          go_roundw
          case rel => exact ⟨i, _, q / 2, hx1, by omega, rfl, by go_num, HQ2, by rw [if_neg h2] at HM; exact HM, trivial⟩
          case measure => simp [intOf]; omega
    · obtain rfl : q = 0 := by omega
      have hj : j = 0 := by
        cases j with
        | zero => rfl
        | succ j => have := HQ.out; have h2 := Nat.two_pow_pos j; simp only [bitAt] at this; omega
      subst hj
      go_wp2
      go_ret
      exact ⟨ret_int (by have := HM.out; simp only [Gf.mulLoop] at this; rw [this]), by go_grown⟩
end Go.Proofs.Ytibdeekgcbmofaa
