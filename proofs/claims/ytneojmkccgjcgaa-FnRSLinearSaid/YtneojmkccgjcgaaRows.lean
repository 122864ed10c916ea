/-
  No cell of these rows narrows 'for every input' (looked for: loops, veiled, ifaces, maps, wideKeys, modest, calm, conditions, laid).
  DERIVED. THE GIVEN ROWS OF THIS SEAT. 7 by the template 'for every input the law returns true; each argument reads behind the call as it read before'; 0 by the template 'total and deterministic' (their statements: YtneojmkccgjcgaaTotals.lean).
  GIVEN WITH THE SEED: the statements are not yours to turn. If you find one false, say at which input.
  Laid BY PROGRAM, IN A SANDBOX (cutbox-rows.mjs): the forced cells as the released guide's own fill.sh prints them over the translation b6f9c7a2e48ae873… (all of the seat's roots in one cut). By AI agents, Wed Nov 11 2026. No macro, syntax, notation, axiom, sorry.
-/
import Derived.Test.YtneojmkccgjcgaaChecked
import GoSem.Claim
import GoSem.ClaimJoined
import GoSem.ClaimMapViews
import Derived.JoinedTies
import Derived.KernelRfl
namespace Go.Proofs.Ytneojmkccgjcgaa
/- THE CELL 'sum', in the pinned program and in every row, IS THE sha256 OF THE DUMP (.gsa) THAT YtneojmkccgjcgaaProg.lean LOADS. Nothing in Lean hashes anything: it is a label: what it is worth is what the hold of that sum in a sandbox is worth. -/
noncomputable def Try.pinned : Pinned := { name := "ytneojmkccgjcgaa", sum := "b6f9c7a2e48ae87329d92cf62022edba6645b3b3bd34dc7ab7c3f6a1350fc162", checked := Try.checked }
namespace Rows
def none {H : Type} : Left H := { results := [], args := [] }

/-- 'laws.FnRSPlus': WHATEVER THE INPUT: true; the input reads as it did. -/
def fnRSPlusSpec : ChangeSpec := { name := "fnRSPlus", fn := fun _ => fun
  | [d1, d2] => { results := [.lit (.bool true)], args := [d1, d2] }
  | _ => none }
def fnRSPlusRow : OpenClaim := { program := "ytneojmkccgjcgaa", sum := "b6f9c7a2e48ae87329d92cf62022edba6645b3b3bd34dc7ab7c3f6a1350fc162", func := "given.example/pub-quietzone/laws.FnRSPlus", spec := "fnRSPlus", apart := false }
def FnRSPlusSaid : Prop := fnRSPlusRow.holds Try.pinned (OpenSpec.ofChange fnRSPlusSpec)

/-- ITS FALSE NEIGHBOUR: 'it returns false'. Refute it at one input. -/
def fnRSPlusWrong : ChangeSpec := { name := "fnRSPlus", fn := fun _ => fun
  | [d1, d2] => { results := [.lit (.bool false)], args := [d1, d2] }
  | _ => none }
def FnRSPlusWrongFalsely : Prop := fnRSPlusRow.holds Try.pinned (OpenSpec.ofChange fnRSPlusWrong)

/-- 'laws.FnRSInverses': WHATEVER THE INPUT: true; the input reads as it did. -/
def fnRSInversesSpec : ChangeSpec := { name := "fnRSInverses", fn := fun _ => fun
  | [d1, d2] => { results := [.lit (.bool true)], args := [d1, d2] }
  | _ => none }
def fnRSInversesRow : OpenClaim := { program := "ytneojmkccgjcgaa", sum := "b6f9c7a2e48ae87329d92cf62022edba6645b3b3bd34dc7ab7c3f6a1350fc162", func := "given.example/pub-quietzone/laws.FnRSInverses", spec := "fnRSInverses", apart := false }
def FnRSInversesSaid : Prop := fnRSInversesRow.holds Try.pinned (OpenSpec.ofChange fnRSInversesSpec)

/-- ITS FALSE NEIGHBOUR: 'it returns false'. Refute it at one input. -/
def fnRSInversesWrong : ChangeSpec := { name := "fnRSInverses", fn := fun _ => fun
  | [d1, d2] => { results := [.lit (.bool false)], args := [d1, d2] }
  | _ => none }
def FnRSInversesWrongFalsely : Prop := fnRSInversesRow.holds Try.pinned (OpenSpec.ofChange fnRSInversesWrong)

/-- 'laws.FnRSCoefficients': WHATEVER THE INPUT: true; the input reads as it did. -/
def fnRSCoefficientsSpec : ChangeSpec := { name := "fnRSCoefficients", fn := fun _ => fun
  | [d1, d2, d3] => { results := [.lit (.bool true)], args := [d1, d2, d3] }
  | _ => none }
def fnRSCoefficientsRow : OpenClaim := { program := "ytneojmkccgjcgaa", sum := "b6f9c7a2e48ae87329d92cf62022edba6645b3b3bd34dc7ab7c3f6a1350fc162", func := "given.example/pub-quietzone/laws.FnRSCoefficients", spec := "fnRSCoefficients", apart := false }
def FnRSCoefficientsSaid : Prop := fnRSCoefficientsRow.holds Try.pinned (OpenSpec.ofChange fnRSCoefficientsSpec)

/-- ITS FALSE NEIGHBOUR: 'it returns false'. Refute it at one input. -/
def fnRSCoefficientsWrong : ChangeSpec := { name := "fnRSCoefficients", fn := fun _ => fun
  | [d1, d2, d3] => { results := [.lit (.bool false)], args := [d1, d2, d3] }
  | _ => none }
def FnRSCoefficientsWrongFalsely : Prop := fnRSCoefficientsRow.holds Try.pinned (OpenSpec.ofChange fnRSCoefficientsWrong)

/-- 'laws.FnRSProducts': WHATEVER THE INPUT: true; the input reads as it did. -/
def fnRSProductsSpec : ChangeSpec := { name := "fnRSProducts", fn := fun _ => fun
  | [d1, d2, d3] => { results := [.lit (.bool true)], args := [d1, d2, d3] }
  | _ => none }
def fnRSProductsRow : OpenClaim := { program := "ytneojmkccgjcgaa", sum := "b6f9c7a2e48ae87329d92cf62022edba6645b3b3bd34dc7ab7c3f6a1350fc162", func := "given.example/pub-quietzone/laws.FnRSProducts", spec := "fnRSProducts", apart := false }
def FnRSProductsSaid : Prop := fnRSProductsRow.holds Try.pinned (OpenSpec.ofChange fnRSProductsSpec)

/-- ITS FALSE NEIGHBOUR: 'it returns false'. Refute it at one input. -/
def fnRSProductsWrong : ChangeSpec := { name := "fnRSProducts", fn := fun _ => fun
  | [d1, d2, d3] => { results := [.lit (.bool false)], args := [d1, d2, d3] }
  | _ => none }
def FnRSProductsWrongFalsely : Prop := fnRSProductsRow.holds Try.pinned (OpenSpec.ofChange fnRSProductsWrong)

/-- 'laws.FnRSEncodes': WHATEVER THE INPUT: true; the input reads as it did. -/
def fnRSEncodesSpec : ChangeSpec := { name := "fnRSEncodes", fn := fun _ => fun
  | [d1, d2, d3] => { results := [.lit (.bool true)], args := [d1, d2, d3] }
  | _ => none }
def fnRSEncodesRow : OpenClaim := { program := "ytneojmkccgjcgaa", sum := "b6f9c7a2e48ae87329d92cf62022edba6645b3b3bd34dc7ab7c3f6a1350fc162", func := "given.example/pub-quietzone/laws.FnRSEncodes", spec := "fnRSEncodes", apart := false }
def FnRSEncodesSaid : Prop := fnRSEncodesRow.holds Try.pinned (OpenSpec.ofChange fnRSEncodesSpec)

/-- ITS FALSE NEIGHBOUR: 'it returns false'. Refute it at one input. -/
def fnRSEncodesWrong : ChangeSpec := { name := "fnRSEncodes", fn := fun _ => fun
  | [d1, d2, d3] => { results := [.lit (.bool false)], args := [d1, d2, d3] }
  | _ => none }
def FnRSEncodesWrongFalsely : Prop := fnRSEncodesRow.holds Try.pinned (OpenSpec.ofChange fnRSEncodesWrong)

/-- 'laws.FnRSLinear': WHATEVER THE INPUT: true; the input reads as it did. -/
def fnRSLinearSpec : ChangeSpec := { name := "fnRSLinear", fn := fun _ => fun
  | [d1, d2, d3, d4] => { results := [.lit (.bool true)], args := [d1, d2, d3, d4] }
  | _ => none }
def fnRSLinearRow : OpenClaim := { program := "ytneojmkccgjcgaa", sum := "b6f9c7a2e48ae87329d92cf62022edba6645b3b3bd34dc7ab7c3f6a1350fc162", func := "given.example/pub-quietzone/laws.FnRSLinear", spec := "fnRSLinear", apart := false }
def FnRSLinearSaid : Prop := fnRSLinearRow.holds Try.pinned (OpenSpec.ofChange fnRSLinearSpec)

/-- ITS FALSE NEIGHBOUR: 'it returns false'. Refute it at one input. -/
def fnRSLinearWrong : ChangeSpec := { name := "fnRSLinear", fn := fun _ => fun
  | [d1, d2, d3, d4] => { results := [.lit (.bool false)], args := [d1, d2, d3, d4] }
  | _ => none }
def FnRSLinearWrongFalsely : Prop := fnRSLinearRow.holds Try.pinned (OpenSpec.ofChange fnRSLinearWrong)

/-- 'laws.FnRSStays': WHATEVER THE INPUT: true; the input reads as it did. -/
def fnRSStaysSpec : ChangeSpec := { name := "fnRSStays", fn := fun _ => fun
  | [d1, d2, d3] => { results := [.lit (.bool true)], args := [d1, d2, d3] }
  | _ => none }
def fnRSStaysRow : OpenClaim := { program := "ytneojmkccgjcgaa", sum := "b6f9c7a2e48ae87329d92cf62022edba6645b3b3bd34dc7ab7c3f6a1350fc162", func := "given.example/pub-quietzone/laws.FnRSStays", spec := "fnRSStays", apart := false }
def FnRSStaysSaid : Prop := fnRSStaysRow.holds Try.pinned (OpenSpec.ofChange fnRSStaysSpec)

/-- ITS FALSE NEIGHBOUR: 'it returns false'. Refute it at one input. -/
def fnRSStaysWrong : ChangeSpec := { name := "fnRSStays", fn := fun _ => fun
  | [d1, d2, d3] => { results := [.lit (.bool false)], args := [d1, d2, d3] }
  | _ => none }
def FnRSStaysWrongFalsely : Prop := fnRSStaysRow.holds Try.pinned (OpenSpec.ofChange fnRSStaysWrong)

/- THE SECOND FORM. 'bulk': how many values and letters a reading holds, each counted each time it is reached (what is shared counts as often as it is met; a slice's spare places count too). A statement '..UptoSaid' is the law's where the arguments, and the package variables that the reading takes, are together of bulk at most 1048576: NARROWER than '..Said'. Prove '..Said' where nothing that the law and all that it calls make is longer than what came in: it says more and counts as full. Else prove '..UptoSaid'. A law counts once. -/
mutual
def uptoBulk {H : Type} : DataW H → Nat
  | .lit (.string bytes) => bytes.length + 1
  | .lit _ => 1
  | .nil => 1
  | .ptr d => uptoBulk d + 1
  | .slice elems spare => uptoBulkAll elems + uptoBulkAll spare + 1
  | .agg parts => uptoBulkAll parts + 1
  | .iface _ d => uptoBulk d + 1
  | .map entries => uptoBulkEntries entries + 1
  | .held _ => 1
def uptoBulkAll {H : Type} : List (DataW H) → Nat
  | [] => 0
  | d :: r => uptoBulk d + uptoBulkAll r
def uptoBulkEntries {H : Type} : List (Lit × DataW H) → Nat
  | [] => 0
  | x :: r => uptoBulkEntry x + uptoBulkEntries r
def uptoBulkEntry {H : Type} : Lit × DataW H → Nat
  | (.string bytes, d) => bytes.length + uptoBulk d + 1
  | (_, d) => uptoBulk d + 1
 end
def uptoSmall : (H : Type) → List (DataW H) → Bool := fun _ ds => decide (uptoBulkAll ds ≤ 1048576)
def OpenSpec.upto (s : _root_.Go.ChangeSpec) : _root_.Go.OpenSpec := { _root_.Go.OpenSpec.ofChange s with cond := some uptoSmall }

/-- 'laws.FnRSPlus', WHERE WHAT IT READS IS OF BULK AT MOST 1048576: true; the input reads as it did. -/
def fnRSPlusUptoRow : OpenClaim := { program := "ytneojmkccgjcgaa", sum := "b6f9c7a2e48ae87329d92cf62022edba6645b3b3bd34dc7ab7c3f6a1350fc162", func := "given.example/pub-quietzone/laws.FnRSPlus", spec := "fnRSPlus", apart := false, narrowed := true }
def FnRSPlusUptoSaid : Prop := fnRSPlusUptoRow.holds Try.pinned (OpenSpec.upto fnRSPlusSpec)

/-- 'laws.FnRSInverses', WHERE WHAT IT READS IS OF BULK AT MOST 1048576: true; the input reads as it did. -/
def fnRSInversesUptoRow : OpenClaim := { program := "ytneojmkccgjcgaa", sum := "b6f9c7a2e48ae87329d92cf62022edba6645b3b3bd34dc7ab7c3f6a1350fc162", func := "given.example/pub-quietzone/laws.FnRSInverses", spec := "fnRSInverses", apart := false, narrowed := true }
def FnRSInversesUptoSaid : Prop := fnRSInversesUptoRow.holds Try.pinned (OpenSpec.upto fnRSInversesSpec)

/-- 'laws.FnRSCoefficients', WHERE WHAT IT READS IS OF BULK AT MOST 1048576: true; the input reads as it did. -/
def fnRSCoefficientsUptoRow : OpenClaim := { program := "ytneojmkccgjcgaa", sum := "b6f9c7a2e48ae87329d92cf62022edba6645b3b3bd34dc7ab7c3f6a1350fc162", func := "given.example/pub-quietzone/laws.FnRSCoefficients", spec := "fnRSCoefficients", apart := false, narrowed := true }
def FnRSCoefficientsUptoSaid : Prop := fnRSCoefficientsUptoRow.holds Try.pinned (OpenSpec.upto fnRSCoefficientsSpec)

/-- 'laws.FnRSProducts', WHERE WHAT IT READS IS OF BULK AT MOST 1048576: true; the input reads as it did. -/
def fnRSProductsUptoRow : OpenClaim := { program := "ytneojmkccgjcgaa", sum := "b6f9c7a2e48ae87329d92cf62022edba6645b3b3bd34dc7ab7c3f6a1350fc162", func := "given.example/pub-quietzone/laws.FnRSProducts", spec := "fnRSProducts", apart := false, narrowed := true }
def FnRSProductsUptoSaid : Prop := fnRSProductsUptoRow.holds Try.pinned (OpenSpec.upto fnRSProductsSpec)

/-- 'laws.FnRSEncodes', WHERE WHAT IT READS IS OF BULK AT MOST 1048576: true; the input reads as it did. -/
def fnRSEncodesUptoRow : OpenClaim := { program := "ytneojmkccgjcgaa", sum := "b6f9c7a2e48ae87329d92cf62022edba6645b3b3bd34dc7ab7c3f6a1350fc162", func := "given.example/pub-quietzone/laws.FnRSEncodes", spec := "fnRSEncodes", apart := false, narrowed := true }
def FnRSEncodesUptoSaid : Prop := fnRSEncodesUptoRow.holds Try.pinned (OpenSpec.upto fnRSEncodesSpec)

/-- 'laws.FnRSLinear', WHERE WHAT IT READS IS OF BULK AT MOST 1048576: true; the input reads as it did. -/
def fnRSLinearUptoRow : OpenClaim := { program := "ytneojmkccgjcgaa", sum := "b6f9c7a2e48ae87329d92cf62022edba6645b3b3bd34dc7ab7c3f6a1350fc162", func := "given.example/pub-quietzone/laws.FnRSLinear", spec := "fnRSLinear", apart := false, narrowed := true }
def FnRSLinearUptoSaid : Prop := fnRSLinearUptoRow.holds Try.pinned (OpenSpec.upto fnRSLinearSpec)

/-- 'laws.FnRSStays', WHERE WHAT IT READS IS OF BULK AT MOST 1048576: true; the input reads as it did. -/
def fnRSStaysUptoRow : OpenClaim := { program := "ytneojmkccgjcgaa", sum := "b6f9c7a2e48ae87329d92cf62022edba6645b3b3bd34dc7ab7c3f6a1350fc162", func := "given.example/pub-quietzone/laws.FnRSStays", spec := "fnRSStays", apart := false, narrowed := true }
def FnRSStaysUptoSaid : Prop := fnRSStaysUptoRow.holds Try.pinned (OpenSpec.upto fnRSStaysSpec)

end Rows
end Go.Proofs.Ytneojmkccgjcgaa
