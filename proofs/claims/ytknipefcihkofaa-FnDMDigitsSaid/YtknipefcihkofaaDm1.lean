/-
  WALKS AND THE LAW of digits.
-/
import Derived.Test.YtknipefcihkofaaStr
namespace Go.Proofs.Ytknipefcihkofaa
open Go.RowKit

def isDig (c : UInt8) : Bool := decide (48 ≤ (c.toNat : Int)) && decide ((c.toNat : Int) ≤ 57)
def digRun (l : List UInt8) : Nat := (l.takeWhile isDig).length
theorem digRun_le (l : List UInt8) : digRun l ≤ l.length := by
  unfold digRun
  exact (List.takeWhile_sublist _).length_le
theorem digRun_at (s : ByteArray) (i : Nat) (h : i < s.size) : digRun (s.data.toList.drop i) = if isDig s[i] = true then digRun (s.data.toList.drop (i + 1)) + 1 else 0 := by
  have h' : i < s.data.toList.length := by simpa using h
  rw [List.drop_eq_getElem_cons h']
  have e : s.data.toList[i] = s[i] := rfl
  rw [e]
  unfold digRun
  split
  · rename_i hd; rw [List.takeWhile_cons_of_pos hd]; rfl
  · rename_i hd; rw [List.takeWhile_cons_of_neg hd]; rfl
theorem digRun_end (s : ByteArray) (i : Nat) (h : s.size ≤ i) : digRun (s.data.toList.drop i) = 0 := by
  rw [List.drop_eq_nil_of_le (by simpa using h)]; rfl

/-- spec.DMPlain tells something, and turns nothing. -/
theorem plain_any (s : ByteArray) (w : World) (hs : s.size ≤ maxLen) :
    Calls Try.prog 6 #[.string s] w fun e w' => (∃ b, e = .returned (.bool b)) ∧ w' = w := by
  unfold maxLen at hs
  go_enter Try.func6, Try.ntmps6
  go_wp2
  go_loop [6] (fun i => ∃ k : Nat, k ≤ s.size ∧ i = .int .i64 k) (fun i => s.size - (intOf i).toNat)
  case atStart => exact ⟨0, Nat.zero_le _, rfl⟩
  case round =>
    obtain ⟨k, hk, rfl⟩ := hrel
    by_cases hlt : k < s.size
    · by_cases hb : 127 < (s[k].toNat : Int)
      · go_wp2
        go_ret
        exact ⟨.inl rfl, rfl⟩
      · go_wp2
        go_round
        case rel => exact ⟨k + 1, by omega, by go_num⟩
        case measure => simp [intOf]; omega
    · go_wp2
      go_ret
      exact ⟨.inr rfl, rfl⟩

theorem isDigit_any (c : UInt8) (w : World) :
    Calls Try.prog 25 #[.int .u8 c.toNat] w fun e w' => e = .returned (.bool (isDig c)) ∧ w' = w := by
  unfold isDig
  by_cases h1 : 48 ≤ (c.toNat : Int)
  · by_cases h2 : (c.toNat : Int) ≤ 57
    · go_enter Try.func25, Try.ntmps25
      go_wp2
      go_ret
      exact ⟨ret_bool (by rw [decide_eq_true h1, decide_eq_true h2]; rfl), rfl⟩
    · go_enter Try.func25, Try.ntmps25
      go_wp2
      go_ret
      exact ⟨ret_bool (by have h3 : ¬ (c.toNat : Int) ≤ 57 := by omega
                          simp only [h3, decide_false]), rfl⟩
  · go_enter Try.func25, Try.ntmps25
    go_wp2
    go_ret
    exact ⟨ret_bool (by rw [decide_eq_false (p := 48 ≤ (c.toNat : Int)) (by omega), Bool.false_and]), rfl⟩

/-- How many digits stand from a place on. -/
theorem count_any (s : ByteArray) (v : Value) (i : Nat) (w : World) (hs : s.size ≤ maxLen) (hv : Rd w w.heap.size v (bytesOf s)) (hi : i ≤ s.size) :
    Calls Try.prog 19 #[v, .int .i64 i] w fun e w' => e = .returned (.int .i64 (digRun (s.data.toList.drop i) : Nat)) ∧ Below w.heap.size w w' := by
  unfold maxLen at hs
  obtain ⟨A, cap, rfl, h1, h2, h3⟩ := hv
  rw [bytesOf_len] at *
  unfold maxLen at h2
  by_cases hlt : i < s.size
  · obtain ⟨b, off, rfl, hb, hc⟩ := h3 (by omega)
    have c1 := hc i _ (bytesOf_at s i hlt)
    have hcc : ∀ j (h : j < s.size), w.cell? ⟨b, off + j, none⟩ = some (.int .u8 ((s[j]).toNat : Int)) := fun j h => hc j _ (bytesOf_at s j h)
    clear hc h3
    have HC := Lib.hid hcc; clear hcc
    go_enter Try.func19, Try.ntmps19
    go_wp2
    go_loop [5, 7, 8] (fun n j c => ∃ k : Nat, ∃ d : UInt8, i + k ≤ s.size ∧ n = .int .i64 k ∧ j = .int .i64 ((i + k : Nat) : Int) ∧ c = .int .u8 d.toNat ∧ Hid (∀ h : i + k < s.size, d = s[i + k]) ∧ Hid (k + digRun (s.data.toList.drop (i + k)) = digRun (s.data.toList.drop i))) (fun _ j _ => s.size - (intOf j).toNat)
    case atStart => exact ⟨0, s[i], by omega, rfl, rfl, rfl, fun _ => rfl, by rw [Nat.zero_add]; rfl⟩
    case round =>
      obtain ⟨k, d, hk, rfl, rfl, rfl, HD, HR⟩ := hrel
      by_cases hkl : i + k < s.size
      · have hd := HD.out hkl
        have hr := digRun_at s (i + k) hkl
        rw [← hd] at hr
        clear hd
        by_cases hdig : isDig d = true
        · rw [if_pos hdig] at hr
          have HR' : Hid (i + k + 1 = i + (k + 1) ∧ (k + 1) + digRun (s.data.toList.drop (i + (k + 1))) = digRun (s.data.toList.drop i)) := ⟨rfl, by rw [← HR.out, hr]; simp only [← Nat.add_assoc]; omega⟩
          clear hr
          by_cases hn : i + k + 1 < s.size
          · have c2 := HC.out (i + k + 1) hn
            go_wp2_with (refine (isDigit_any d _).mono ?_; rintro e w1 ⟨rfl, rfl⟩; rw [hdig])
            go_round
            case rel => exact ⟨k + 1, s[i + k + 1], by omega, by go_num, by go_num, rfl, fun h => rfl, HR'.out.2⟩
            case measure => simp [intOf]; omega
          · go_wp2_with (refine (isDigit_any d _).mono ?_; rintro e w1 ⟨rfl, rfl⟩; rw [hdig])
            go_round
            case rel => exact ⟨k + 1, d, by omega, by go_num, by go_num, rfl, fun h => absurd h (by omega), HR'.out.2⟩
            case measure => simp [intOf]; omega
        · have hdig' : isDig d = false := by simpa using hdig
          rw [if_neg hdig] at hr
          have HR' : Hid (k = digRun (s.data.toList.drop i)) := by rw [← HR.out, hr]; rfl
          clear hr
          go_wp2_with (refine (isDigit_any d _).mono ?_; rintro e w1 ⟨rfl, rfl⟩; rw [hdig'])
          go_ret
          exact ⟨ret_int (by rw [← HR'.out]), brf _⟩
      · have hr := digRun_end s (i + k) (by omega)
        have HR' : Hid (k = digRun (s.data.toList.drop i)) := by rw [← HR.out, hr]; rfl
        clear hr
        rcases hdd : isDig d
        · go_wp2_with (refine (isDigit_any d _).mono ?_; rintro e w1 ⟨rfl, rfl⟩; rw [hdd])
          go_ret
          exact ⟨ret_int (by rw [← HR'.out]), brf _⟩
        · go_wp2_with (refine (isDigit_any d _).mono ?_; rintro e w1 ⟨rfl, rfl⟩; rw [hdd])
          go_ret
          exact ⟨ret_int (by rw [← HR'.out]), brf _⟩
  · have hr := digRun_end s i (by omega)
    have HR := Lib.hid hr
    clear hr h3
    go_enter Try.func19, Try.ntmps19
    go_wp2
    go_ret
    exact ⟨ret_int (by rw [HR.out]; rfl), brf _⟩

/-- impl.DMDigits. -/
theorem dmDigits_any (s : ByteArray) (i : Nat) (w : World) (hs : s.size ≤ maxLen) (hi : i ≤ s.size) :
    Calls Try.prog 7 #[.string s, .int .i64 i] w fun e w' => e = .returned (.int .i64 (digRun (s.data.toList.drop i) : Nat)) ∧ Below w.heap.size w w' := by
  obtain ⟨v, w1, hcv, hrd, hb⟩ := conv_any (P := Try.prog) w 9 25 5 s (u := .string) Try.underlying9 Try.underlying25 Try.underlying5 hs
  go_enter Try.func7, Try.ntmps7
  go_wp2_with (refine (count_any s v i w1 hs hrd hi).mono ?_; rintro e w2 ⟨rfl, hb2⟩)
  go_ret
  exact ⟨rfl, bup hb hb2⟩

/-- The law. -/
theorem digits_walk (s : ByteArray) (a : Int) (ha : -9223372036854775808 ≤ a ∧ a ≤ 9223372036854775807) (w : World) (hs : s.size ≤ maxLen) :
    Calls Try.prog 3 #[.string s, .int .i64 a] w fun e w' => e = .returned (.bool true) ∧ Below w.heap.size w w' := by
  have HS := Lib.hid hs
  unfold maxLen at hs
  by_cases hbig : (2147483647 : Int) < (s.size : Int)
  · go_enter Try.func3, Try.ntmps3
    go_wp2
    go_ret
    exact ⟨rfl, brf w⟩
  · by_cases h0 : a < 0
    · go_enter Try.func3, Try.ntmps3
      go_wp2_with fail
      refine (plain_any s w HS.out).mono ?_
      rintro e w1 ⟨⟨_ | _, rfl⟩, rfl⟩
      all_goals
        go_wp2
        go_ret
        exact ⟨rfl, brf _⟩
    · by_cases h1 : (s.size : Int) < a
      · go_enter Try.func3, Try.ntmps3
        go_wp2_with fail
        refine (plain_any s w HS.out).mono ?_
        rintro e w1 ⟨⟨_ | _, rfl⟩, rfl⟩
        all_goals
          go_wp2
          go_ret
          exact ⟨rfl, brf _⟩
      · obtain ⟨i, rfl⟩ := Int.eq_ofNat_of_zero_le (a := a) (by omega)
        have e0 : decide ((i : Int) < 0) = false := by simp
        have e1 : ¬ s.size < i := by omega
        go_enter Try.func3, Try.ntmps3
        go_wp2_with fail
        refine (plain_any s w HS.out).mono ?_
        rintro e w1 ⟨⟨_ | _, rfl⟩, rfl⟩
        · go_wp2
          go_ret
          exact ⟨rfl, brf _⟩
        · go_wp2
          go_loopw [5] (fun n wr => ∃ k : Nat, i + k ≤ s.size ∧ n = .int .i64 k ∧ Hid (k + digRun (s.data.toList.drop (i + k)) = digRun (s.data.toList.drop i)) ∧ wr = w1) (fun n _ => s.size - (intOf n).toNat)
          case atStart => exact ⟨0, by omega, rfl, by rw [Nat.zero_add]; rfl, rfl⟩
          case round =>
            obtain ⟨k, hk, rfl, HR, rfl⟩ := hrel
            by_cases hkl : i + k < s.size
            · have hr := digRun_at s (i + k) hkl
              by_cases hdig : isDig s[i + k] = true
              · rw [if_pos hdig] at hr
                have HR' : Hid ((k + 1) + digRun (s.data.toList.drop (i + (k + 1))) = digRun (s.data.toList.drop i)) := by rw [← HR.out, hr]; simp only [← Nat.add_assoc]; show _ = _; omega
                clear hr
                have hd2 : 48 ≤ (s[i + k].toNat : Int) ∧ (s[i + k].toNat : Int) ≤ 57 := by unfold isDig at hdig; simpa using hdig
                obtain ⟨hd3, hd4⟩ := hd2
                go_wp2
                go_round
                case rel => exact ⟨k + 1, by omega, by go_num, HR', trivial⟩
                case measure => simp [intOf]; omega
              · rw [if_neg hdig] at hr
                have HR' : Hid (digRun (s.data.toList.drop i) = k) := by rw [← HR.out, hr]; rfl
                clear hr
                by_cases hd3 : 48 ≤ (s[i + k].toNat : Int)
                · have hd4 : ¬ (s[i + k].toNat : Int) ≤ 57 := fun h => hdig (by unfold isDig; rw [decide_eq_true hd3, decide_eq_true h]; rfl)
                  go_wp2_with (refine (dmDigits_any s i _ HS.out (by omega)).mono ?_; rintro e w2 ⟨rfl, hb2⟩; rw [HR'.out])
                  go_ret
                  exact ⟨rfl, hb2⟩
                · go_wp2_with (refine (dmDigits_any s i _ HS.out (by omega)).mono ?_; rintro e w2 ⟨rfl, hb2⟩; rw [HR'.out])
                  go_ret
                  exact ⟨rfl, hb2⟩
            · have hr := digRun_end s (i + k) (by omega)
              have HR' : Hid (digRun (s.data.toList.drop i) = k) := by rw [← HR.out, hr]; rfl
              clear hr
              go_wp2_with (refine (dmDigits_any s i _ HS.out (by omega)).mono ?_; rintro e w2 ⟨rfl, hb2⟩; rw [HR'.out])
              go_ret
              exact ⟨rfl, hb2⟩
end Go.Proofs.Ytknipefcihkofaa
