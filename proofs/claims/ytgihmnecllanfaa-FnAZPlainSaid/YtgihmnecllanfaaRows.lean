/-
  No cell of these rows narrows 'for every input' (looked for: loops, veiled, ifaces, maps, wideKeys, modest, calm, conditions, laid).
  DERIVED. THE GIVEN ROWS OF THIS SEAT. 4 by the template 'for every input the law returns true; each argument reads behind the call as it read before'; 0 by the template 'total and deterministic' (their statements: YtgihmnecllanfaaTotals.lean).
  GIVEN WITH THE SEED: the statements are not yours to turn. If you find one false, say at which input.
  Laid BY PROGRAM, IN A SANDBOX (cutbox-rows.mjs): the forced cells as the released guide's own fill.sh prints them over the translation c7110d1bde6614bf… (all of the seat's roots in one cut). By AI agents, Wed Nov 11 2026. No macro, syntax, notation, axiom, sorry.
-/
import Derived.Test.YtgihmnecllanfaaChecked
import GoSem.Claim
import GoSem.ClaimJoined
import GoSem.ClaimMapViews
import Derived.JoinedTies
import Derived.KernelRfl
namespace Go.Proofs.Ytgihmnecllanfaa
/- THE CELL 'sum', in the pinned program and in every row, IS THE sha256 OF THE DUMP (.gsa) THAT YtgihmnecllanfaaProg.lean LOADS. Nothing in Lean hashes anything: it is a label: what it is worth is what the hold of that sum in a sandbox is worth. -/
noncomputable def Try.pinned : Pinned := { name := "ytgihmnecllanfaa", sum := "c7110d1bde6614bfccffe8b1eaeda319935458863d6f404da14b64e09a032faa", checked := Try.checked }
namespace Rows
def none {H : Type} : Left H := { results := [], args := [] }

/-- 'laws.FnAZBits': WHATEVER THE INPUT: true; the input reads as it did. -/
def fnAZBitsSpec : ChangeSpec := { name := "fnAZBits", fn := fun _ => fun
  | [d1, d2, d3] => { results := [.lit (.bool true)], args := [d1, d2, d3] }
  | _ => none }
def fnAZBitsRow : OpenClaim := { program := "ytgihmnecllanfaa", sum := "c7110d1bde6614bfccffe8b1eaeda319935458863d6f404da14b64e09a032faa", func := "given.example/pub-quietzone/laws.FnAZBits", spec := "fnAZBits", apart := false }
def FnAZBitsSaid : Prop := fnAZBitsRow.holds Try.pinned (OpenSpec.ofChange fnAZBitsSpec)

/-- ITS FALSE NEIGHBOUR: 'it returns false'. Refute it at one input. -/
def fnAZBitsWrong : ChangeSpec := { name := "fnAZBits", fn := fun _ => fun
  | [d1, d2, d3] => { results := [.lit (.bool false)], args := [d1, d2, d3] }
  | _ => none }
def FnAZBitsWrongFalsely : Prop := fnAZBitsRow.holds Try.pinned (OpenSpec.ofChange fnAZBitsWrong)

/-- 'laws.FnAZPlain': WHATEVER THE INPUT: true; the input reads as it did. -/
def fnAZPlainSpec : ChangeSpec := { name := "fnAZPlain", fn := fun _ => fun
  | [d] => { results := [.lit (.bool true)], args := [d] }
  | _ => none }
def fnAZPlainRow : OpenClaim := { program := "ytgihmnecllanfaa", sum := "c7110d1bde6614bfccffe8b1eaeda319935458863d6f404da14b64e09a032faa", func := "given.example/pub-quietzone/laws.FnAZPlain", spec := "fnAZPlain", apart := false }
def FnAZPlainSaid : Prop := fnAZPlainRow.holds Try.pinned (OpenSpec.ofChange fnAZPlainSpec)

/-- ITS FALSE NEIGHBOUR: 'it returns false'. Refute it at one input. -/
def fnAZPlainWrong : ChangeSpec := { name := "fnAZPlain", fn := fun _ => fun
  | [d] => { results := [.lit (.bool false)], args := [d] }
  | _ => none }
def FnAZPlainWrongFalsely : Prop := fnAZPlainRow.holds Try.pinned (OpenSpec.ofChange fnAZPlainWrong)

/-- 'laws.FnAZMode': WHATEVER THE INPUT: true; the input reads as it did. -/
def fnAZModeSpec : ChangeSpec := { name := "fnAZMode", fn := fun _ => fun
  | [d1, d2, d3, d4] => { results := [.lit (.bool true)], args := [d1, d2, d3, d4] }
  | _ => none }
def fnAZModeRow : OpenClaim := { program := "ytgihmnecllanfaa", sum := "c7110d1bde6614bfccffe8b1eaeda319935458863d6f404da14b64e09a032faa", func := "given.example/pub-quietzone/laws.FnAZMode", spec := "fnAZMode", apart := false }
def FnAZModeSaid : Prop := fnAZModeRow.holds Try.pinned (OpenSpec.ofChange fnAZModeSpec)

/-- ITS FALSE NEIGHBOUR: 'it returns false'. Refute it at one input. -/
def fnAZModeWrong : ChangeSpec := { name := "fnAZMode", fn := fun _ => fun
  | [d1, d2, d3, d4] => { results := [.lit (.bool false)], args := [d1, d2, d3, d4] }
  | _ => none }
def FnAZModeWrongFalsely : Prop := fnAZModeRow.holds Try.pinned (OpenSpec.ofChange fnAZModeWrong)

/-- 'laws.FnAZStuffed': WHATEVER THE INPUT: true; the input reads as it did. -/
def fnAZStuffedSpec : ChangeSpec := { name := "fnAZStuffed", fn := fun _ => fun
  | [d1, d2, d3] => { results := [.lit (.bool true)], args := [d1, d2, d3] }
  | _ => none }
def fnAZStuffedRow : OpenClaim := { program := "ytgihmnecllanfaa", sum := "c7110d1bde6614bfccffe8b1eaeda319935458863d6f404da14b64e09a032faa", func := "given.example/pub-quietzone/laws.FnAZStuffed", spec := "fnAZStuffed", apart := false }
def FnAZStuffedSaid : Prop := fnAZStuffedRow.holds Try.pinned (OpenSpec.ofChange fnAZStuffedSpec)

/-- ITS FALSE NEIGHBOUR: 'it returns false'. Refute it at one input. -/
def fnAZStuffedWrong : ChangeSpec := { name := "fnAZStuffed", fn := fun _ => fun
  | [d1, d2, d3] => { results := [.lit (.bool false)], args := [d1, d2, d3] }
  | _ => none }
def FnAZStuffedWrongFalsely : Prop := fnAZStuffedRow.holds Try.pinned (OpenSpec.ofChange fnAZStuffedWrong)

/- THE SECOND FORM. 'bulk': how many values and letters a reading holds, each counted each time it is reached (what is shared counts as often as it is met; a slice's spare places count too). A statement '..UptoSaid' is the law's where the arguments, and the package variables that the reading takes, are together of bulk at most 1048576: NARROWER than '..Said'. Prove '..Said' where nothing that the law and all that it calls make is longer than what came in: it says more and counts as full. Else prove '..UptoSaid'. A law counts once. -/
mutual
def uptoBulk {H : Type} : DataW H → Nat
  | .lit (.string bytes) => bytes.length + 1
  | .lit _ => 1
  | .nil => 1
  | .ptr d => uptoBulk d + 1
  | .slice elems spare => uptoBulkAll elems + uptoBulkAll spare + 1
  | .agg parts => uptoBulkAll parts + 1
  | .iface _ d => uptoBulk d + 1
  | .map entries => uptoBulkEntries entries + 1
  | .held _ => 1
def uptoBulkAll {H : Type} : List (DataW H) → Nat
  | [] => 0
  | d :: r => uptoBulk d + uptoBulkAll r
def uptoBulkEntries {H : Type} : List (Lit × DataW H) → Nat
  | [] => 0
  | x :: r => uptoBulkEntry x + uptoBulkEntries r
def uptoBulkEntry {H : Type} : Lit × DataW H → Nat
  | (.string bytes, d) => bytes.length + uptoBulk d + 1
  | (_, d) => uptoBulk d + 1
 end
def uptoSmall : (H : Type) → List (DataW H) → Bool := fun _ ds => decide (uptoBulkAll ds ≤ 1048576)
def OpenSpec.upto (s : _root_.Go.ChangeSpec) : _root_.Go.OpenSpec := { _root_.Go.OpenSpec.ofChange s with cond := some uptoSmall }

/-- 'laws.FnAZBits', WHERE WHAT IT READS IS OF BULK AT MOST 1048576: true; the input reads as it did. -/
def fnAZBitsUptoRow : OpenClaim := { program := "ytgihmnecllanfaa", sum := "c7110d1bde6614bfccffe8b1eaeda319935458863d6f404da14b64e09a032faa", func := "given.example/pub-quietzone/laws.FnAZBits", spec := "fnAZBits", apart := false, narrowed := true }
def FnAZBitsUptoSaid : Prop := fnAZBitsUptoRow.holds Try.pinned (OpenSpec.upto fnAZBitsSpec)

/-- 'laws.FnAZPlain', WHERE WHAT IT READS IS OF BULK AT MOST 1048576: true; the input reads as it did. -/
def fnAZPlainUptoRow : OpenClaim := { program := "ytgihmnecllanfaa", sum := "c7110d1bde6614bfccffe8b1eaeda319935458863d6f404da14b64e09a032faa", func := "given.example/pub-quietzone/laws.FnAZPlain", spec := "fnAZPlain", apart := false, narrowed := true }
def FnAZPlainUptoSaid : Prop := fnAZPlainUptoRow.holds Try.pinned (OpenSpec.upto fnAZPlainSpec)

/-- 'laws.FnAZMode', WHERE WHAT IT READS IS OF BULK AT MOST 1048576: true; the input reads as it did. -/
def fnAZModeUptoRow : OpenClaim := { program := "ytgihmnecllanfaa", sum := "c7110d1bde6614bfccffe8b1eaeda319935458863d6f404da14b64e09a032faa", func := "given.example/pub-quietzone/laws.FnAZMode", spec := "fnAZMode", apart := false, narrowed := true }
def FnAZModeUptoSaid : Prop := fnAZModeUptoRow.holds Try.pinned (OpenSpec.upto fnAZModeSpec)

/-- 'laws.FnAZStuffed', WHERE WHAT IT READS IS OF BULK AT MOST 1048576: true; the input reads as it did. -/
def fnAZStuffedUptoRow : OpenClaim := { program := "ytgihmnecllanfaa", sum := "c7110d1bde6614bfccffe8b1eaeda319935458863d6f404da14b64e09a032faa", func := "given.example/pub-quietzone/laws.FnAZStuffed", spec := "fnAZStuffed", apart := false, narrowed := true }
def FnAZStuffedUptoSaid : Prop := fnAZStuffedUptoRow.holds Try.pinned (OpenSpec.upto fnAZStuffedSpec)

end Rows
end Go.Proofs.Ytgihmnecllanfaa
