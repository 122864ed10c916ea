/-
  PLAIN: bits of words, the highest one first, as numbers. PLAIN: words of Data Matrix in the modes ASCII, C40 and EDIFACT, and what they say. WALKS: strconv.Itoa of a number below 100.
-/
import Derived.Test.YtopfdmmimgnciaaGreatDoorV01
import Derived.Lib.ItoaNum
import Derived.Lib.Strings
import Derived.Lib.ItoaWalk
import Derived.Test.YtopfdmmimgnciaaGreatDoorV02
namespace Go.Proofs.YtopfdmmimgnciaaGreatDoor
open Go.RowKit

/-- Bit p of bytes, the highest one of each first. -/
def bitB (bs : List Nat) (p : Nat) : Nat := bs.getD (p / 8) 0 / 2 ^ (7 - p % 8) % 2
/-- The number of n bits from p on. -/
def rb (bs : List Nat) (p : Nat) : Nat → Nat
  | 0 => 0
  | n + 1 => 2 * rb bs p n + bitB bs (p + n)
end Go.Proofs.YtopfdmmimgnciaaGreatDoor
namespace Go.Proofs.YtopfdmmimgnciaaGreatDoor
open Go.RowKit

/-- The two digits of a number below 100. -/
def dg2 (d : Nat) : List UInt8 := [UInt8.ofNat (48 + d / 10), UInt8.ofNat (48 + d % 10)]
/-- What a run of ASCII words says: the words that are left, the text, how many are taken, the mode behind it. -/
inductive Asc : List Nat → List UInt8 → Nat → Nat → Prop
  | one (c : Nat) (r : List Nat) (h1 : 1 ≤ c) (h2 : c ≤ 128) : Asc (c :: r) [UInt8.ofNat (c - 1)] 1 1
  | pad (r : List Nat) : Asc (129 :: r) [] 1 0
  | two (d : Nat) (r : List Nat) (t : List UInt8) (k m : Nat) (h : d < 100) (ha : Asc r t k m) : Asc ((130 + d) :: r) (dg2 d ++ t) (k + 1) m
  | c40 (r : List Nat) : Asc (230 :: r) [] 1 2
  | edi (r : List Nat) : Asc (240 :: r) [] 1 5
def bas (v : Nat) : Nat := if v = 3 then 32 else if v < 14 then v + 44 else v + 51
def sh2 (v : Nat) : Nat := if v < 15 then v + 33 else if v < 22 then v + 43 else v + 69
/-- What values say, from a shift on. -/
def c40S : Nat → List Nat → Option (List UInt8)
  | _, [] => some []
  | 0, v :: r => if v < 3 then c40S (v + 1) r else if v < 40 then (c40S 0 r).map (UInt8.ofNat (bas v) :: ·) else none
  | 1, v :: r => if v < 40 then (c40S 0 r).map (UInt8.ofNat v :: ·) else none
  | 2, v :: r => if v < 27 then (c40S 0 r).map (UInt8.ofNat (sh2 v) :: ·) else none
  | 3, v :: r => if v < 40 then (c40S 0 r).map (UInt8.ofNat (v + 96) :: ·) else none
  | _ + 4, _ :: _ => none
/-- Two words for each three values. -/
def tripW : List Nat → List Nat
  | a :: b :: c :: r => ((1600 * a + 40 * b + c + 1) / 256) :: ((1600 * a + 40 * b + c + 1) % 256) :: tripW r
  | _ => []
/-- A segment of C40: threes of values, the unlatch, and more. -/
def C40P (ws : List Nat) (t : List UInt8) (k : Nat) : Prop := ∃ vs r, ws = tripW vs ++ 254 :: r ∧ vs.length % 3 = 0 ∧ c40S 0 vs = some t ∧ k = 2 * (vs.length / 3) + 1 ∧ 1 ≤ r.length
/-- A segment of EDIFACT: six bits a byte, the unlatch, and more. -/
def EdiP (ws : List Nat) (t : List UInt8) (k : Nat) : Prop :=
  (∀ (j : Nat) (c : UInt8), t[j]? = some c → 32 ≤ c.toNat ∧ c.toNat ≤ 94 ∧ rb ws (6 * j) 6 = c.toNat % 64) ∧ rb ws (6 * t.length) 6 = 31 ∧ k = (6 * t.length + 13) / 8 ∧ 6 * t.length + 30 ≤ 8 * ws.length
inductive Said : Nat → List Nat → List UInt8 → Prop
  | done (ws : List Nat) : Said 0 ws []
  | asc (ws : List Nat) (t t2 : List UInt8) (k m : Nat) (h : Asc ws t k m) (h2 : Said m (ws.drop k) t2) : Said 1 ws (t ++ t2)
  | c40 (ws : List Nat) (t t2 : List UInt8) (k : Nat) (h : C40P ws t k) (h2 : Said 1 (ws.drop k) t2) : Said 2 ws (t ++ t2)
  | edi (ws : List Nat) (t t2 : List UInt8) (k : Nat) (h : EdiP ws t k) (h2 : Said 1 (ws.drop k) t2) : Said 5 ws (t ++ t2)
theorem Said.mode {m : Nat} {ws : List Nat} {t : List UInt8} (h : Said m ws t) : m = 0 ∨ m = 1 ∨ m = 2 ∨ m = 5 := by
  cases h <;> simp
end Go.Proofs.YtopfdmmimgnciaaGreatDoor
namespace Go.Proofs.YtopfdmmimgnciaaGreatDoor
open Go.RowKit

theorem ito_ba (x : ByteArray) (l : List UInt8) (h : x.data.toList = l) : x = ⟨l.toArray⟩ := by
  subst h
  cases x
  simp
set_option maxHeartbeats 2000000 in
set_option maxRecDepth 100000 in
theorem small_any (i : Nat) (h : i < 100) (w : World) : Calls Tryz.prog 127 #[.int .i64 i] w fun e w' => e = .returned (.string ⟨(Lib.decDigits i).toArray⟩) ∧ w' = w := by
  go_enter Tryz.func127, Tryz.ntmps127
  go_name_bytes_deep 45 SM hSM
  have eSM : SM = Lib.smalls := by rw [← hSM]; decide +kernel
  subst eSM
  clear hSM
  go_name_bytes_deep 30 DG hDG
  have eDG : DG = Lib.digits36 := by rw [← hDG]; decide +kernel
  subst eDG
  clear hDG
  by_cases h10 : i < 10
  · have hsl : ∀ w, (Instr.slice 9 (.string Lib.digits36) (some (.int .i64 (i : Int))) (some (.int .i64 ((i : Int) + 1))) none).run Tryz.prog w = .ok (.string (Lib.digits36.extract i (i + 1))) w := fun w => by
      rw [run_slice_string w 9 Lib.digits36 .i64 .i64 _ _ Tryz.underlying9 (by omega) (by omega) (by rw [Lib.digits36_size]; omega), show ((i : Int)).toNat = i by omega, show ((i : Int) + 1).toNat = i + 1 by omega]
    go_wp2
    go_ret
    refine ⟨?_, rfl⟩
    show Ending.returned (Value.string (Lib.digits36.extract i (i + 1))) = _
    rw [ito_ba (Lib.digits36.extract i (i + 1)) (Lib.decDigits i) (by rw [Lib.extract_data]; exact Lib.digits36_piece h10)]
  · have hsl : ∀ w, (Instr.slice 9 (.string Lib.smalls) (some (.int .i64 ((i : Int) * 2))) (some (.int .i64 ((i : Int) * 2 + 2))) none).run Tryz.prog w = .ok (.string (Lib.smalls.extract (i * 2) (i * 2 + 2))) w := fun w => by
      rw [run_slice_string w 9 Lib.smalls .i64 .i64 _ _ Tryz.underlying9 (by omega) (by omega) (by rw [Lib.smalls_size]; omega), show ((i : Int) * 2).toNat = i * 2 by omega, show ((i : Int) * 2 + 2).toNat = i * 2 + 2 by omega]
    go_wp2
    go_ret
    refine ⟨?_, rfl⟩
    show Ending.returned (Value.string (Lib.smalls.extract (i * 2) (i * 2 + 2))) = _
    rw [ito_ba (Lib.smalls.extract (i * 2) (i * 2 + 2)) (Lib.decDigits i) (by rw [Lib.extract_data]; exact Lib.smalls_piece h10 h)]
theorem decD_lo : ∀ d, d < 10 → Lib.decDigits d = [UInt8.ofNat (48 + d)] := by decide +kernel
theorem decD_hi : ∀ d, d < 100 → 10 ≤ d → Lib.decDigits d = [UInt8.ofNat (48 + d / 10), UInt8.ofNat (48 + d % 10)] := by decide +kernel
/-- What is appended behind the zero of a number below ten. -/
def itoL (d : Nat) : List UInt8 := if d < 10 then [UInt8.ofNat (48 + d)] else dg2 d
theorem itoL_len (d : Nat) : (itoL d).length ≤ 2 := by unfold itoL dg2; split <;> simp
set_option maxRecDepth 100000 in
theorem itoa_any (i : Nat) (h : i < 100) (w : World) : Calls Tryz.prog 53 #[.int .i64 i] w fun e w' => e = .returned (.string (ofL (itoL i))) ∧ w' = w := by
  have hd : (⟨(Lib.decDigits i).toArray⟩ : ByteArray) = ofL (itoL i) := by
    unfold ofL itoL
    split
    · rw [decD_lo i (by assumption)]
    · rw [decD_hi i h (by omega)]; rfl
  have h1 : ∀ w', Calls Tryz.prog 114 #[.int .i64 i, .int .i64 10] w' fun e w'' => e = .returned (.string (ofL (itoL i))) ∧ w'' = w' := fun w' => by
    go_enter Tryz.func114, Tryz.ntmps114
    go_wp2_with fail
    refine (small_any i h _).mono ?_
    rintro e w' ⟨rfl, rfl⟩
    rw [hd]
    go_wp2
    go_ret
    exact ⟨rfl, rfl⟩
  have h2 : ∀ w', Calls Tryz.prog 83 #[.int .i64 i] w' fun e w'' => e = .returned (.string (ofL (itoL i))) ∧ w'' = w' := fun w' => by
    go_enter Tryz.func83, Tryz.ntmps83
    go_wp2_with fail
    refine (h1 _).mono ?_
    rintro e w' ⟨rfl, rfl⟩
    go_wp2
    go_ret
    exact ⟨rfl, rfl⟩
  go_enter Tryz.func53, Tryz.ntmps53
  go_wp2_with fail
  refine (h2 _).mono ?_
  rintro e w' ⟨rfl, rfl⟩
  go_wp2
  go_ret
  exact ⟨rfl, rfl⟩
end Go.Proofs.YtopfdmmimgnciaaGreatDoor
