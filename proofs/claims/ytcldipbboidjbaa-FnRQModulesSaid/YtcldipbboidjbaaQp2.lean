/-
  WALK: spec.qrAlign.
-/
import Derived.Test.YtcldipbboidjbaaQp1
import Derived.Test.YtcldipbboidjbaaSh5
namespace Go.Proofs.Ytcldipbboidjbaa
open Go.RowKit

/-- Rows and columns i and k of alignment patterns have none: the finders stand there. -/
def skipA (n i k : Nat) : Bool := (i == 0 && (k == 0 || k + 1 == n)) || (i + 1 == n && k == 0)
/-- In row i of alignment patterns, ahead of column K: how far the module is from the middle of the one in which it stands. -/
def rowA (cs : List Nat) (r c : Nat) (i : Nat) : Nat → Option Int
  | 0 => none
  | K + 1 => match rowA cs r c i K with
    | some v => some v
    | none => if skipA cs.length i K = false ∧ farI r c (cs.getD i 0 : Nat) (cs.getD K 0 : Nat) ≤ 2 then some (farI r c (cs.getD i 0 : Nat) (cs.getD K 0 : Nat)) else none
def allA (cs : List Nat) (r c : Nat) : Nat → Option Int
  | 0 => none
  | I + 1 => match allA cs r c I with
    | some v => some v
    | none => if (cs.getD I 0 : Int) - 2 ≤ r ∧ (r : Int) ≤ (cs.getD I 0 : Int) + 2 then rowA cs r c I cs.length else none
/-- How far a module is from the middle of the alignment pattern in which it stands. -/
def alignI (cs : List Nat) (r c : Nat) : Int := (allA cs r c cs.length).getD (-1)
theorem rowA_keep (cs : List Nat) (r c i K m : Nat) (v : Int) (h : rowA cs r c i K = some v) : rowA cs r c i (K + m) = some v := by
  induction m with
  | zero => exact h
  | succ m ih => show (match rowA cs r c i (K + m) with | some v => some v | none => _) = _; rw [ih]
theorem allA_keep (cs : List Nat) (r c I m : Nat) (v : Int) (h : allA cs r c I = some v) : allA cs r c (I + m) = some v := by
  induction m with
  | zero => exact h
  | succ m ih => show (match allA cs r c (I + m) with | some v => some v | none => _) = _; rw [ih]
theorem rowA_succ (cs : List Nat) (r c i K : Nat) (h : rowA cs r c i K = none) : rowA cs r c i (K + 1) = if skipA cs.length i K = false ∧ farI r c (cs.getD i 0 : Nat) (cs.getD K 0 : Nat) ≤ 2 then some (farI r c (cs.getD i 0 : Nat) (cs.getD K 0 : Nat)) else none := by
  show (match rowA cs r c i K with | some v => some v | none => _) = _; rw [h]
theorem allA_succ (cs : List Nat) (r c I : Nat) (h : allA cs r c I = none) : allA cs r c (I + 1) = if (cs.getD I 0 : Int) - 2 ≤ r ∧ (r : Int) ≤ (cs.getD I 0 : Int) + 2 then rowA cs r c I cs.length else none := by
  show (match allA cs r c I with | some v => some v | none => _) = _; rw [h]
theorem align_some (cs : List Nat) (r c i k : Nat) (hi : i < cs.length) (hk : k < cs.length) (h1 : allA cs r c i = none) (h2 : rowA cs r c i k = none) (hr : (cs.getD i 0 : Int) - 2 ≤ r ∧ (r : Int) ≤ (cs.getD i 0 : Int) + 2) (hs : skipA cs.length i k = false) (hf : farI r c (cs.getD i 0 : Nat) (cs.getD k 0 : Nat) ≤ 2) :
    alignI cs r c = farI r c (cs.getD i 0 : Nat) (cs.getD k 0 : Nat) := by
  have e1 := rowA_succ cs r c i k h2
  rw [if_pos ⟨hs, hf⟩] at e1
  have e2 := rowA_keep cs r c i (k + 1) (cs.length - (k + 1)) _ e1
  rw [show k + 1 + (cs.length - (k + 1)) = cs.length by omega] at e2
  have e3 := allA_succ cs r c i h1
  rw [if_pos hr, e2] at e3
  have e4 := allA_keep cs r c (i + 1) (cs.length - (i + 1)) _ e3
  rw [show i + 1 + (cs.length - (i + 1)) = cs.length by omega] at e4
  unfold alignI; rw [e4]; rfl
set_option maxRecDepth 100000 in
set_option maxHeartbeats 4000000 in
theorem align_any (v : Value) (cs : List Nat) (r c B : Nat) (w : World) (hv : Rd w B v (nvl cs)) (hn : cs.length ≤ 7) (hc : ∀ x ∈ cs, x ≤ 180) (h1 : r ≤ 180) (h2 : c ≤ 180) :
    Calls Try.prog 75 #[v, .int .i64 r, .int .i64 c] w fun e w' => e = .returned (.int .i64 (alignI cs r c)) ∧ w' = w := by
  obtain ⟨A, cap, rfl, k1, k2, k3⟩ := hv
  rw [nvl_len] at *
  unfold maxLen at k2
  have HC : Hid (∀ i, i < cs.length → ∃ b o, A = some ⟨b, o, none⟩ ∧ w.cell? ⟨b, o + i, none⟩ = some (.int .i64 ((cs.getD i 0 : Nat) : Int)) ∧ cs.getD i 0 ≤ 180) := Lib.hid (fun i hi => by
    obtain ⟨b, o, hA, _, hcc⟩ := k3 (by omega)
    refine ⟨b, o, hA, ?_, ?_⟩
    · have := hcc i _ (nvl_at cs i hi)
      rw [this, List.getD, List.getElem?_eq_getElem hi]; rfl
    · rw [List.getD, List.getElem?_eq_getElem hi]; exact hc _ (List.getElem_mem hi))
  clear k3 hc
  go_enter Try.func75, Try.ntmps75
  go_wp2_with fail
  go_loopw [18] (fun iv wr => ∃ i : Nat, i ≤ cs.length ∧ iv = .int .i64 i ∧ Hid (allA cs r c i = none) ∧ wr = w) (fun iv _ => cs.length - (intOf iv).toNat)
  case atStart => exact ⟨0, Nat.zero_le _, rfl, Lib.hid rfl, rfl⟩
  case round =>
    obtain ⟨i, hi, rfl, HI, rfl⟩ := hrel
    by_cases hlt : i < cs.length
    · obtain ⟨b, o, rfl, ca, ha⟩ := HC.out i hlt
      obtain ⟨a, hA⟩ : ∃ a, a = cs.getD i 0 := ⟨_, rfl⟩
      rw [← hA] at ca ha
      have HAa := Lib.hid hA
      clear hA
      by_cases hin : (a : Int) - 2 ≤ (r : Int) ∧ (r : Int) ≤ (a : Int) + 2
      · obtain ⟨in1, in2⟩ := hin
        have t1 : decide ((r : Int) < (a : Int) - 2) = false := decide_eq_false (by omega)
        have t2 : decide ((a : Int) + 2 < (r : Int)) = false := decide_eq_false (by omega)
        go_wp2_with fail
        clear t1 t2
        go_loopw [35] (fun kv wq => ∃ k : Nat, k ≤ cs.length ∧ kv = .int .i64 k ∧ Hid (rowA cs r c i k = none) ∧ wq = wr) (fun kv _ => cs.length - (intOf kv).toNat)
        case atStart => exact ⟨0, Nat.zero_le _, rfl, Lib.hid rfl, rfl⟩
        case round =>
          obtain ⟨k, hk, rfl, HR, rfl⟩ := hrel
          by_cases hkl : k < cs.length
          · obtain ⟨b', o', hAA, cb, hb⟩ := HC.out k hkl
            injection hAA with hAA
            injection hAA with hA1 hA2 _
            subst hA1 hA2
            obtain ⟨b2, hB⟩ : ∃ x, x = cs.getD k 0 := ⟨_, rfl⟩
            rw [← hB] at cb hb
            have HBb := Lib.hid hB
            clear hB
            by_cases i0 : i = 0
            · have u1 : ((i : Int) == 0) = true := by simp; omega
              by_cases k0 : k = 0
              · have u2 : ((k : Int) == 0) = true := by simp; omega
                have hsk : skipA cs.length i k = true := by unfold skipA; simp [i0, k0]
                clear i0 k0
                have HR2 : Hid (rowA cs r c i (k + 1) = none) := Lib.hid (by rw [rowA_succ _ _ _ _ _ HR.out, if_neg (fun h => by have := h.1; rw [hsk] at this; cases this)])
                clear HR hsk
                go_wp2_with fail
                go_roundw
                case rel => exact ⟨k + 1, by omega, by go_num, HR2, trivial⟩
                case measure => simp [intOf]; omega
              · have u2 : ((k : Int) == 0) = false := by simp; omega
                have u4 : ((i : Int) == (cs.length : Int) - 1) = false := by simp; omega
                by_cases kl : k + 1 = cs.length
                · have u3 : ((k : Int) == (cs.length : Int) - 1) = true := by simp; omega
                  have hsk : skipA cs.length i k = true := by unfold skipA; simp [i0, kl]
                  clear i0 k0 kl
                  have HR2 : Hid (rowA cs r c i (k + 1) = none) := Lib.hid (by rw [rowA_succ _ _ _ _ _ HR.out, if_neg (fun h => by have := h.1; rw [hsk] at this; cases this)])
                  clear HR hsk
                  go_wp2_with fail
                  go_roundw
                  case rel => exact ⟨k + 1, by omega, by go_num, HR2, trivial⟩
                  case measure => simp [intOf]; omega
                · have u3 : ((k : Int) == (cs.length : Int) - 1) = false := by simp; omega
                  have hsk : skipA cs.length i k = false := by unfold skipA; simp [i0, k0, kl]
                  clear i0 k0 kl
                  have HSK := Lib.hid hsk
                  clear hsk
                  go_wp2_with fail
                  refine (far_any (r : Int) (c : Int) (a : Int) (b2 : Int) _ ⟨by omega, by omega⟩ ⟨by omega, by omega⟩ ⟨by omega, by omega⟩ ⟨by omega, by omega⟩).mono ?_
                  rintro e wr ⟨rfl, rfl⟩
                  obtain ⟨F, hF⟩ : ∃ F, F = farI (r : Int) (c : Int) (a : Int) (b2 : Int) := ⟨_, rfl⟩
                  rw [← hF]
                  have HF := Lib.hid hF
                  clear hF
                  by_cases hf : F ≤ 2
                  · have HRes : Hid (alignI cs r c = F) := Lib.hid (by
                      have := align_some cs r c i k hlt hkl HI.out HR.out (by rw [← HAa.out]; exact ⟨in1, in2⟩) HSK.out (by rw [← HAa.out, ← HBb.out, ← HF.out]; exact hf)
                      rw [this, ← HAa.out, ← HBb.out, HF.out])
                    go_wp2_with fail
                    go_ret
                    exact ⟨ret_int HRes.out.symm, rfl⟩
                  · have HR2 : Hid (rowA cs r c i (k + 1) = none) := Lib.hid (by rw [rowA_succ _ _ _ _ _ HR.out, ← HAa.out, ← HBb.out, ← HF.out, if_neg (fun h => hf h.2)])
                    clear HR
                    go_wp2_with fail
                    go_roundw
                    case rel => exact ⟨k + 1, by omega, by go_num, HR2, trivial⟩
                    case measure => simp [intOf]; omega
            · have u1 : ((i : Int) == 0) = false := by simp; omega
              by_cases il : i + 1 = cs.length
              · have u4 : ((i : Int) == (cs.length : Int) - 1) = true := by simp; omega
                by_cases k0 : k = 0
                · have u2 : ((k : Int) == 0) = true := by simp; omega
                  have hsk : skipA cs.length i k = true := by unfold skipA; simp [il, k0]
                  clear i0 k0 il
                  have HR2 : Hid (rowA cs r c i (k + 1) = none) := Lib.hid (by rw [rowA_succ _ _ _ _ _ HR.out, if_neg (fun h => by have := h.1; rw [hsk] at this; cases this)])
                  clear HR hsk
                  go_wp2_with fail
                  go_roundw
                  case rel => exact ⟨k + 1, by omega, by go_num, HR2, trivial⟩
                  case measure => simp [intOf]; omega
                · have u2 : ((k : Int) == 0) = false := by simp; omega
                  have hsk : skipA cs.length i k = false := by unfold skipA; simp [i0, k0]
                  clear i0 k0 il
                  have HSK := Lib.hid hsk
                  clear hsk
                  go_wp2_with fail
                  refine (far_any (r : Int) (c : Int) (a : Int) (b2 : Int) _ ⟨by omega, by omega⟩ ⟨by omega, by omega⟩ ⟨by omega, by omega⟩ ⟨by omega, by omega⟩).mono ?_
                  rintro e wr ⟨rfl, rfl⟩
                  obtain ⟨F, hF⟩ : ∃ F, F = farI (r : Int) (c : Int) (a : Int) (b2 : Int) := ⟨_, rfl⟩
                  rw [← hF]
                  have HF := Lib.hid hF
                  clear hF
                  by_cases hf : F ≤ 2
                  · have HRes : Hid (alignI cs r c = F) := Lib.hid (by
                      have := align_some cs r c i k hlt hkl HI.out HR.out (by rw [← HAa.out]; exact ⟨in1, in2⟩) HSK.out (by rw [← HAa.out, ← HBb.out, ← HF.out]; exact hf)
                      rw [this, ← HAa.out, ← HBb.out, HF.out])
                    go_wp2_with fail
                    go_ret
                    exact ⟨ret_int HRes.out.symm, rfl⟩
                  · have HR2 : Hid (rowA cs r c i (k + 1) = none) := Lib.hid (by rw [rowA_succ _ _ _ _ _ HR.out, ← HAa.out, ← HBb.out, ← HF.out, if_neg (fun h => hf h.2)])
                    clear HR
                    go_wp2_with fail
                    go_roundw
                    case rel => exact ⟨k + 1, by omega, by go_num, HR2, trivial⟩
                    case measure => simp [intOf]; omega
              · have u4 : ((i : Int) == (cs.length : Int) - 1) = false := by simp; omega
                have hsk : skipA cs.length i k = false := by unfold skipA; simp [i0, il]
                clear i0 il
                have HSK := Lib.hid hsk
                clear hsk
                go_wp2_with fail
                refine (far_any (r : Int) (c : Int) (a : Int) (b2 : Int) _ ⟨by omega, by omega⟩ ⟨by omega, by omega⟩ ⟨by omega, by omega⟩ ⟨by omega, by omega⟩).mono ?_
                rintro e wr ⟨rfl, rfl⟩
                obtain ⟨F, hF⟩ : ∃ F, F = farI (r : Int) (c : Int) (a : Int) (b2 : Int) := ⟨_, rfl⟩
                rw [← hF]
                have HF := Lib.hid hF
                clear hF
                by_cases hf : F ≤ 2
                · have HRes : Hid (alignI cs r c = F) := Lib.hid (by
                    have := align_some cs r c i k hlt hkl HI.out HR.out (by rw [← HAa.out]; exact ⟨in1, in2⟩) HSK.out (by rw [← HAa.out, ← HBb.out, ← HF.out]; exact hf)
                    rw [this, ← HAa.out, ← HBb.out, HF.out])
                  go_wp2_with fail
                  go_ret
                  exact ⟨ret_int HRes.out.symm, rfl⟩
                · have HR2 : Hid (rowA cs r c i (k + 1) = none) := Lib.hid (by rw [rowA_succ _ _ _ _ _ HR.out, ← HAa.out, ← HBb.out, ← HF.out, if_neg (fun h => hf h.2)])
                  clear HR
                  go_wp2_with fail
                  go_roundw
                  case rel => exact ⟨k + 1, by omega, by go_num, HR2, trivial⟩
                  case measure => simp [intOf]; omega
          · obtain rfl : k = cs.length := by omega
            have HI2 : Hid (allA cs r c (i + 1) = none) := Lib.hid (by rw [allA_succ _ _ _ _ HI.out, ← HAa.out, if_pos ⟨in1, in2⟩]; exact HR.out)
            clear HI HR
            go_wp2_with fail
            go_roundw
            case rel => exact ⟨i + 1, by omega, by go_num, HI2, trivial⟩
            case measure => simp [intOf]; omega
      · have HI2 : Hid (allA cs r c (i + 1) = none) := Lib.hid (by rw [allA_succ _ _ _ _ HI.out, ← HAa.out, if_neg hin])
        clear HI
        by_cases hin1 : (a : Int) - 2 ≤ (r : Int)
        · have hin2 : ¬ (r : Int) ≤ (a : Int) + 2 := fun h => hin ⟨hin1, h⟩
          clear hin
          go_wp2_with fail
          go_roundw
          case rel => exact ⟨i + 1, by omega, by go_num, HI2, trivial⟩
          case measure => simp [intOf]; omega
        · clear hin
          go_wp2_with fail
          go_roundw
          case rel => exact ⟨i + 1, by omega, by go_num, HI2, trivial⟩
          case measure => simp [intOf]; omega
    · obtain rfl : i = cs.length := by omega
      have HRes : Hid (alignI cs r c = -1) := Lib.hid (by unfold alignI; rw [HI.out]; rfl)
      go_wp2_with fail
      go_ret
      exact ⟨ret_int HRes.out.symm, rfl⟩
end Go.Proofs.Ytcldipbboidjbaa
