/-
  WALKS: NewBitSource, ErrorCorrectionLevel.String, NewDecoderResultWithParams, its getters, laws.qrName.
-/
import Derived.Test.YtjkfkkenaiodoaaPq10
namespace Go.Proofs.Ytjkfkkenaiodoaa
open Go.RowKit

theorem newBits_any (A : Option Addr) (n c : Nat) (w : World) : Calls Try.prog 31 #[.slice A n c] w fun e w' => e = .returned (.pointer (some ⟨w.heap.size, 0, none⟩)) ∧ w' = w.alloc (.cells #[.slice A n c, .int .i64 0, .int .i64 0] 106) := by
  go_enter Try.func31, Try.ntmps31
  go_wp2
  go_ret
  exact ⟨rfl, rfl⟩
/-- The letter of a level. -/
def lvS (a : Nat) : ByteArray := if a = 0 then ⟨#[77]⟩ else if a = 1 then ⟨#[76]⟩ else if a = 2 then ⟨#[72]⟩ else ⟨#[81]⟩
theorem lvName_any (a : Nat) (w : World) (h : a < 4) : Calls Try.prog 46 #[.int .i64 a] w fun e w' => e = .returned (.string (lvS a)) ∧ w' = w := by
  have h4 : a = 0 ∨ a = 1 ∨ a = 2 ∨ a = 3 := by omega
  rcases h4 with rfl | rfl | rfl | rfl <;>
  · go_enter Try.func46, Try.ntmps46
    go_wp2
    go_ret
    exact ⟨rfl, rfl⟩
theorem ixName : ∀ w : World, (Instr.index 92 (.agg #[.string ⟨#[77]⟩, .string ⟨#[76]⟩, .string ⟨#[72]⟩, .string ⟨#[81]⟩]) (.int .i64 0)).run Try.prog w = .ok (.string ⟨#[77]⟩) w ∧ (Instr.index 92 (.agg #[.string ⟨#[77]⟩, .string ⟨#[76]⟩, .string ⟨#[72]⟩, .string ⟨#[81]⟩]) (.int .i64 1)).run Try.prog w = .ok (.string ⟨#[76]⟩) w ∧ (Instr.index 92 (.agg #[.string ⟨#[77]⟩, .string ⟨#[76]⟩, .string ⟨#[72]⟩, .string ⟨#[81]⟩]) (.int .i64 2)).run Try.prog w = .ok (.string ⟨#[72]⟩) w ∧ (Instr.index 92 (.agg #[.string ⟨#[77]⟩, .string ⟨#[76]⟩, .string ⟨#[72]⟩, .string ⟨#[81]⟩]) (.int .i64 3)).run Try.prog w = .ok (.string ⟨#[81]⟩) w := by
  intro w
  refine ⟨?_, ?_, ?_, ?_⟩ <;> kernel_rfl
set_option maxRecDepth 100000 in
theorem qrName_any (a : Nat) (w : World) (h : a < 4) : Calls Try.prog 18 #[.int .i64 a] w fun e w' => e = .returned (.string (lvS a)) ∧ w' = w := by
  have h4 : a = 0 ∨ a = 1 ∨ a = 2 ∨ a = 3 := by omega
  have i0 := fun w' => (ixName w').1
  have i1 := fun w' => (ixName w').2.1
  have i2 := fun w' => (ixName w').2.2.1
  have i3 := fun w' => (ixName w').2.2.2
  rcases h4 with rfl | rfl | rfl | rfl <;>
  · go_enter Try.func18, Try.ntmps18
    go_wp2
    go_ret
    exact ⟨rfl, rfl⟩
/-- The cells of a result. -/
def drC (A : Option Addr) (n c : Nat) (s : ByteArray) (A2 : Option Addr) (n2 c2 : Nat) (s2 : ByteArray) (a b k : Int) : Array Value :=
  #[.slice A n c, .int .i64 (8 * (n : Int)), .string s, .slice A2 n2 c2, .string s2, .int .i64 0, .int .i64 0, .nilIface, .int .i64 b, .int .i64 a, .int .i64 k]
theorem newDec_any (A : Option Addr) (n c : Nat) (s s2 : ByteArray) (A2 : Option Addr) (n2 c2 : Nat) (a b k : Int) (w : World) (hn : n ≤ 2147483647) : Calls Try.prog 45 #[.slice A n c, .string s, .slice A2 n2 c2, .string s2, .int .i64 a, .int .i64 b, .int .i64 k] w fun e w' => e = .returned (.pointer (some ⟨w.heap.size, 0, none⟩)) ∧ w' = w.alloc (.cells (drC A n c s A2 n2 c2 s2 a b k) 104) := by
  go_enter Try.func45, Try.ntmps45
  go_wp2
  go_ret
  exact ⟨rfl, rfl⟩
end Go.Proofs.Ytjkfkkenaiodoaa
