/-
  No cell of these rows narrows 'for every input' (looked for: loops, veiled, ifaces, maps, wideKeys, modest, calm, conditions, laid).
  DERIVED. THE GIVEN ROWS OF THIS SEAT. 4 by the template 'for every input the law returns true; each argument reads behind the call as it read before'; 0 by the template 'total and deterministic' (their statements: YtfgajbhgkdkmbaaTotals.lean).
  GIVEN WITH THE SEED: the statements are not yours to turn. If you find one false, say at which input.
  Laid BY PROGRAM, IN A SANDBOX (cutbox-rows.mjs): the forced cells as the released guide's own fill.sh prints them over the translation 2e074ae22727748e… (all of the seat's roots in one cut). By AI agents, Wed Nov 11 2026. No macro, syntax, notation, axiom, sorry.
-/
import Derived.Test.YtfgajbhgkdkmbaaChecked
import GoSem.Claim
import GoSem.ClaimJoined
import GoSem.ClaimMapViews
import Derived.JoinedTies
import Derived.KernelRfl
namespace Go.Proofs.Ytfgajbhgkdkmbaa
/- THE CELL 'sum', in the pinned program and in every row, IS THE sha256 OF THE DUMP (.gsa) THAT YtfgajbhgkdkmbaaProg.lean LOADS. Nothing in Lean hashes anything: it is a label: what it is worth is what the hold of that sum in a sandbox is worth. -/
noncomputable def Try.pinned : Pinned := { name := "ytfgajbhgkdkmbaa", sum := "2e074ae22727748e40d78ed86ba11e0a1df26f0f7f68c4ffdf10799dc93ef95a", checked := Try.checked }
namespace Rows
def none {H : Type} : Left H := { results := [], args := [] }

/-- 'laws.FnRQModules': WHATEVER THE INPUT: true; the input reads as it did. -/
def fnRQModulesSpec : ChangeSpec := { name := "fnRQModules", fn := fun _ => fun
  | [d1, d2, d3, d4, d5, d6] => { results := [.lit (.bool true)], args := [d1, d2, d3, d4, d5, d6] }
  | _ => none }
def fnRQModulesRow : OpenClaim := { program := "ytfgajbhgkdkmbaa", sum := "2e074ae22727748e40d78ed86ba11e0a1df26f0f7f68c4ffdf10799dc93ef95a", func := "given.example/pub-quietzone/laws.FnRQModules", spec := "fnRQModules", apart := false }
def FnRQModulesSaid : Prop := fnRQModulesRow.holds Try.pinned (OpenSpec.ofChange fnRQModulesSpec)

/-- ITS FALSE NEIGHBOUR: 'it returns false'. Refute it at one input. -/
def fnRQModulesWrong : ChangeSpec := { name := "fnRQModules", fn := fun _ => fun
  | [d1, d2, d3, d4, d5, d6] => { results := [.lit (.bool false)], args := [d1, d2, d3, d4, d5, d6] }
  | _ => none }
def FnRQModulesWrongFalsely : Prop := fnRQModulesRow.holds Try.pinned (OpenSpec.ofChange fnRQModulesWrong)

/-- 'laws.FnQRVersionCopies': WHATEVER THE INPUT: true; the input reads as it did. -/
def fnQRVersionCopiesSpec : ChangeSpec := { name := "fnQRVersionCopies", fn := fun _ => fun
  | [d1, d2, d3, d4] => { results := [.lit (.bool true)], args := [d1, d2, d3, d4] }
  | _ => none }
def fnQRVersionCopiesRow : OpenClaim := { program := "ytfgajbhgkdkmbaa", sum := "2e074ae22727748e40d78ed86ba11e0a1df26f0f7f68c4ffdf10799dc93ef95a", func := "given.example/pub-quietzone/laws.FnQRVersionCopies", spec := "fnQRVersionCopies", apart := false }
def FnQRVersionCopiesSaid : Prop := fnQRVersionCopiesRow.holds Try.pinned (OpenSpec.ofChange fnQRVersionCopiesSpec)

/-- ITS FALSE NEIGHBOUR: 'it returns false'. Refute it at one input. -/
def fnQRVersionCopiesWrong : ChangeSpec := { name := "fnQRVersionCopies", fn := fun _ => fun
  | [d1, d2, d3, d4] => { results := [.lit (.bool false)], args := [d1, d2, d3, d4] }
  | _ => none }
def FnQRVersionCopiesWrongFalsely : Prop := fnQRVersionCopiesRow.holds Try.pinned (OpenSpec.ofChange fnQRVersionCopiesWrong)

/-- 'laws.FnQRParses': WHATEVER THE INPUT: true; the input reads as it did. -/
def fnQRParsesSpec : ChangeSpec := { name := "fnQRParses", fn := fun _ => fun
  | [d1, d2, d3] => { results := [.lit (.bool true)], args := [d1, d2, d3] }
  | _ => none }
def fnQRParsesRow : OpenClaim := { program := "ytfgajbhgkdkmbaa", sum := "2e074ae22727748e40d78ed86ba11e0a1df26f0f7f68c4ffdf10799dc93ef95a", func := "given.example/pub-quietzone/laws.FnQRParses", spec := "fnQRParses", apart := false }
def FnQRParsesSaid : Prop := fnQRParsesRow.holds Try.pinned (OpenSpec.ofChange fnQRParsesSpec)

/-- ITS FALSE NEIGHBOUR: 'it returns false'. Refute it at one input. -/
def fnQRParsesWrong : ChangeSpec := { name := "fnQRParses", fn := fun _ => fun
  | [d1, d2, d3] => { results := [.lit (.bool false)], args := [d1, d2, d3] }
  | _ => none }
def FnQRParsesWrongFalsely : Prop := fnQRParsesRow.holds Try.pinned (OpenSpec.ofChange fnQRParsesWrong)

/-- 'laws.FnQRWordsRead': WHATEVER THE INPUT: true; the input reads as it did. -/
def fnQRWordsReadSpec : ChangeSpec := { name := "fnQRWordsRead", fn := fun _ => fun
  | [d1, d2, d3, d4] => { results := [.lit (.bool true)], args := [d1, d2, d3, d4] }
  | _ => none }
def fnQRWordsReadRow : OpenClaim := { program := "ytfgajbhgkdkmbaa", sum := "2e074ae22727748e40d78ed86ba11e0a1df26f0f7f68c4ffdf10799dc93ef95a", func := "given.example/pub-quietzone/laws.FnQRWordsRead", spec := "fnQRWordsRead", unfollowed := true, recurses := true, apart := false }
def FnQRWordsReadSaid : Prop := fnQRWordsReadRow.holds Try.pinned (OpenSpec.ofChange fnQRWordsReadSpec)

/-- ITS FALSE NEIGHBOUR: 'it returns false'. Refute it at one input. -/
def fnQRWordsReadWrong : ChangeSpec := { name := "fnQRWordsRead", fn := fun _ => fun
  | [d1, d2, d3, d4] => { results := [.lit (.bool false)], args := [d1, d2, d3, d4] }
  | _ => none }
def FnQRWordsReadWrongFalsely : Prop := fnQRWordsReadRow.holds Try.pinned (OpenSpec.ofChange fnQRWordsReadWrong)

/- THE SECOND FORM. 'bulk': how many values and letters a reading holds, each counted each time it is reached (what is shared counts as often as it is met; a slice's spare places count too). A statement '..UptoSaid' is the law's where the arguments, and the package variables that the reading takes, are together of bulk at most 1048576: NARROWER than '..Said'. Prove '..Said' where nothing that the law and all that it calls make is longer than what came in: it says more and counts as full. Else prove '..UptoSaid'. A law counts once. -/
mutual
def uptoBulk {H : Type} : DataW H → Nat
  | .lit (.string bytes) => bytes.length + 1
  | .lit _ => 1
  | .nil => 1
  | .ptr d => uptoBulk d + 1
  | .slice elems spare => uptoBulkAll elems + uptoBulkAll spare + 1
  | .agg parts => uptoBulkAll parts + 1
  | .iface _ d => uptoBulk d + 1
  | .map entries => uptoBulkEntries entries + 1
  | .held _ => 1
def uptoBulkAll {H : Type} : List (DataW H) → Nat
  | [] => 0
  | d :: r => uptoBulk d + uptoBulkAll r
def uptoBulkEntries {H : Type} : List (Lit × DataW H) → Nat
  | [] => 0
  | x :: r => uptoBulkEntry x + uptoBulkEntries r
def uptoBulkEntry {H : Type} : Lit × DataW H → Nat
  | (.string bytes, d) => bytes.length + uptoBulk d + 1
  | (_, d) => uptoBulk d + 1
 end
def uptoSmall : (H : Type) → List (DataW H) → Bool := fun _ ds => decide (uptoBulkAll ds ≤ 1048576)
def OpenSpec.upto (s : _root_.Go.ChangeSpec) : _root_.Go.OpenSpec := { _root_.Go.OpenSpec.ofChange s with cond := some uptoSmall }

/-- 'laws.FnRQModules', WHERE WHAT IT READS IS OF BULK AT MOST 1048576: true; the input reads as it did. -/
def fnRQModulesUptoRow : OpenClaim := { program := "ytfgajbhgkdkmbaa", sum := "2e074ae22727748e40d78ed86ba11e0a1df26f0f7f68c4ffdf10799dc93ef95a", func := "given.example/pub-quietzone/laws.FnRQModules", spec := "fnRQModules", apart := false, narrowed := true }
def FnRQModulesUptoSaid : Prop := fnRQModulesUptoRow.holds Try.pinned (OpenSpec.upto fnRQModulesSpec)

/-- 'laws.FnQRVersionCopies', WHERE WHAT IT READS IS OF BULK AT MOST 1048576: true; the input reads as it did. -/
def fnQRVersionCopiesUptoRow : OpenClaim := { program := "ytfgajbhgkdkmbaa", sum := "2e074ae22727748e40d78ed86ba11e0a1df26f0f7f68c4ffdf10799dc93ef95a", func := "given.example/pub-quietzone/laws.FnQRVersionCopies", spec := "fnQRVersionCopies", apart := false, narrowed := true }
def FnQRVersionCopiesUptoSaid : Prop := fnQRVersionCopiesUptoRow.holds Try.pinned (OpenSpec.upto fnQRVersionCopiesSpec)

/-- 'laws.FnQRParses', WHERE WHAT IT READS IS OF BULK AT MOST 1048576: true; the input reads as it did. -/
def fnQRParsesUptoRow : OpenClaim := { program := "ytfgajbhgkdkmbaa", sum := "2e074ae22727748e40d78ed86ba11e0a1df26f0f7f68c4ffdf10799dc93ef95a", func := "given.example/pub-quietzone/laws.FnQRParses", spec := "fnQRParses", apart := false, narrowed := true }
def FnQRParsesUptoSaid : Prop := fnQRParsesUptoRow.holds Try.pinned (OpenSpec.upto fnQRParsesSpec)

/-- 'laws.FnQRWordsRead', WHERE WHAT IT READS IS OF BULK AT MOST 1048576: true; the input reads as it did. -/
def fnQRWordsReadUptoRow : OpenClaim := { program := "ytfgajbhgkdkmbaa", sum := "2e074ae22727748e40d78ed86ba11e0a1df26f0f7f68c4ffdf10799dc93ef95a", func := "given.example/pub-quietzone/laws.FnQRWordsRead", spec := "fnQRWordsRead", unfollowed := true, recurses := true, apart := false, narrowed := true }
def FnQRWordsReadUptoSaid : Prop := fnQRWordsReadUptoRow.holds Try.pinned (OpenSpec.upto fnQRWordsReadSpec)

end Rows
end Go.Proofs.Ytfgajbhgkdkmbaa
