/-
  No cell of these rows narrows 'for every input' (looked for: loops, veiled, ifaces, maps, wideKeys, modest, calm, conditions, laid).
  DERIVED. THE GIVEN ROWS OF THIS SEAT. 4 by the template 'for every input the law returns true; each argument reads behind the call as it read before'; 0 by the template 'total and deterministic' (their statements: YtimfaplnhlnjlaaTotals.lean).
  GIVEN WITH THE SEED: the statements are not yours to turn. If you find one false, say at which input.
  Laid BY PROGRAM, IN A SANDBOX (cutbox-rows.mjs): the forced cells as the released guide's own fill.sh prints them over the translation 33bfcdaf79169bb8… (all of the seat's roots in one cut). By AI agents, Wed Nov 11 2026. No macro, syntax, notation, axiom, sorry.
-/
import Derived.Test.YtimfaplnhlnjlaaChecked
import GoSem.Claim
import GoSem.ClaimJoined
import GoSem.ClaimMapViews
import Derived.JoinedTies
import Derived.KernelRfl
namespace Go.Proofs.Ytimfaplnhlnjlaa
/- THE CELL 'sum', in the pinned program and in every row, IS THE sha256 OF THE DUMP (.gsa) THAT YtimfaplnhlnjlaaProg.lean LOADS. Nothing in Lean hashes anything: it is a label: what it is worth is what the hold of that sum in a sandbox is worth. -/
noncomputable def Try.pinned : Pinned := { name := "ytimfaplnhlnjlaa", sum := "33bfcdaf79169bb821724449b4df563b0cf6002f25b6c302ac0a7fc0fe8653f1", checked := Try.checked }
namespace Rows
def none {H : Type} : Left H := { results := [], args := [] }

/-- 'laws.FnPXPoint': WHATEVER THE INPUT: true; the input reads as it did. -/
def fnPXPointSpec : ChangeSpec := { name := "fnPXPoint", fn := fun _ => fun
  | [d] => { results := [.lit (.bool true)], args := [d] }
  | _ => none }
def fnPXPointRow : OpenClaim := { program := "ytimfaplnhlnjlaa", sum := "33bfcdaf79169bb821724449b4df563b0cf6002f25b6c302ac0a7fc0fe8653f1", func := "given.example/pub-quietzone/laws.FnPXPoint", spec := "fnPXPoint", apart := false }
def FnPXPointSaid : Prop := fnPXPointRow.holds Try.pinned (OpenSpec.ofChange fnPXPointSpec)

/-- ITS FALSE NEIGHBOUR: 'it returns false'. Refute it at one input. -/
def fnPXPointWrong : ChangeSpec := { name := "fnPXPoint", fn := fun _ => fun
  | [d] => { results := [.lit (.bool false)], args := [d] }
  | _ => none }
def FnPXPointWrongFalsely : Prop := fnPXPointRow.holds Try.pinned (OpenSpec.ofChange fnPXPointWrong)

/-- 'laws.FnPXCropped': WHATEVER THE INPUT: true; the input reads as it did. -/
def fnPXCroppedSpec : ChangeSpec := { name := "fnPXCropped", fn := fun _ => fun
  | [d1, d2, d3] => { results := [.lit (.bool true)], args := [d1, d2, d3] }
  | _ => none }
def fnPXCroppedRow : OpenClaim := { program := "ytimfaplnhlnjlaa", sum := "33bfcdaf79169bb821724449b4df563b0cf6002f25b6c302ac0a7fc0fe8653f1", func := "given.example/pub-quietzone/laws.FnPXCropped", spec := "fnPXCropped", unfollowed := true, recurses := true, apart := false }
def FnPXCroppedSaid : Prop := fnPXCroppedRow.holds Try.pinned (OpenSpec.ofChange fnPXCroppedSpec)

/-- ITS FALSE NEIGHBOUR: 'it returns false'. Refute it at one input. -/
def fnPXCroppedWrong : ChangeSpec := { name := "fnPXCropped", fn := fun _ => fun
  | [d1, d2, d3] => { results := [.lit (.bool false)], args := [d1, d2, d3] }
  | _ => none }
def FnPXCroppedWrongFalsely : Prop := fnPXCroppedRow.holds Try.pinned (OpenSpec.ofChange fnPXCroppedWrong)

/-- 'laws.FnPXRow': WHATEVER THE INPUT: true; the input reads as it did. -/
def fnPXRowSpec : ChangeSpec := { name := "fnPXRow", fn := fun _ => fun
  | [d1, d2, d3, d4] => { results := [.lit (.bool true)], args := [d1, d2, d3, d4] }
  | _ => none }
def fnPXRowRow : OpenClaim := { program := "ytimfaplnhlnjlaa", sum := "33bfcdaf79169bb821724449b4df563b0cf6002f25b6c302ac0a7fc0fe8653f1", func := "given.example/pub-quietzone/laws.FnPXRow", spec := "fnPXRow", unfollowed := true, recurses := true, apart := false }
def FnPXRowSaid : Prop := fnPXRowRow.holds Try.pinned (OpenSpec.ofChange fnPXRowSpec)

/-- ITS FALSE NEIGHBOUR: 'it returns false'. Refute it at one input. -/
def fnPXRowWrong : ChangeSpec := { name := "fnPXRow", fn := fun _ => fun
  | [d1, d2, d3, d4] => { results := [.lit (.bool false)], args := [d1, d2, d3, d4] }
  | _ => none }
def FnPXRowWrongFalsely : Prop := fnPXRowRow.holds Try.pinned (OpenSpec.ofChange fnPXRowWrong)

/-- 'laws.FnPXNegative': WHATEVER THE INPUT: true; the input reads as it did. -/
def fnPXNegativeSpec : ChangeSpec := { name := "fnPXNegative", fn := fun _ => fun
  | [d1, d2, d3, d4, d5] => { results := [.lit (.bool true)], args := [d1, d2, d3, d4, d5] }
  | _ => none }
def fnPXNegativeRow : OpenClaim := { program := "ytimfaplnhlnjlaa", sum := "33bfcdaf79169bb821724449b4df563b0cf6002f25b6c302ac0a7fc0fe8653f1", func := "given.example/pub-quietzone/laws.FnPXNegative", spec := "fnPXNegative", unfollowed := true, recurses := true, apart := false }
def FnPXNegativeSaid : Prop := fnPXNegativeRow.holds Try.pinned (OpenSpec.ofChange fnPXNegativeSpec)

/-- ITS FALSE NEIGHBOUR: 'it returns false'. Refute it at one input. -/
def fnPXNegativeWrong : ChangeSpec := { name := "fnPXNegative", fn := fun _ => fun
  | [d1, d2, d3, d4, d5] => { results := [.lit (.bool false)], args := [d1, d2, d3, d4, d5] }
  | _ => none }
def FnPXNegativeWrongFalsely : Prop := fnPXNegativeRow.holds Try.pinned (OpenSpec.ofChange fnPXNegativeWrong)

/- THE SECOND FORM. 'bulk': how many values and letters a reading holds, each counted each time it is reached (what is shared counts as often as it is met; a slice's spare places count too). A statement '..UptoSaid' is the law's where the arguments, and the package variables that the reading takes, are together of bulk at most 1048576: NARROWER than '..Said'. Prove '..Said' where nothing that the law and all that it calls make is longer than what came in: it says more and counts as full. Else prove '..UptoSaid'. A law counts once. -/
mutual
def uptoBulk {H : Type} : DataW H → Nat
  | .lit (.string bytes) => bytes.length + 1
  | .lit _ => 1
  | .nil => 1
  | .ptr d => uptoBulk d + 1
  | .slice elems spare => uptoBulkAll elems + uptoBulkAll spare + 1
  | .agg parts => uptoBulkAll parts + 1
  | .iface _ d => uptoBulk d + 1
  | .map entries => uptoBulkEntries entries + 1
  | .held _ => 1
def uptoBulkAll {H : Type} : List (DataW H) → Nat
  | [] => 0
  | d :: r => uptoBulk d + uptoBulkAll r
def uptoBulkEntries {H : Type} : List (Lit × DataW H) → Nat
  | [] => 0
  | x :: r => uptoBulkEntry x + uptoBulkEntries r
def uptoBulkEntry {H : Type} : Lit × DataW H → Nat
  | (.string bytes, d) => bytes.length + uptoBulk d + 1
  | (_, d) => uptoBulk d + 1
 end
def uptoSmall : (H : Type) → List (DataW H) → Bool := fun _ ds => decide (uptoBulkAll ds ≤ 1048576)
def OpenSpec.upto (s : _root_.Go.ChangeSpec) : _root_.Go.OpenSpec := { _root_.Go.OpenSpec.ofChange s with cond := some uptoSmall }

/-- 'laws.FnPXPoint', WHERE WHAT IT READS IS OF BULK AT MOST 1048576: true; the input reads as it did. -/
def fnPXPointUptoRow : OpenClaim := { program := "ytimfaplnhlnjlaa", sum := "33bfcdaf79169bb821724449b4df563b0cf6002f25b6c302ac0a7fc0fe8653f1", func := "given.example/pub-quietzone/laws.FnPXPoint", spec := "fnPXPoint", apart := false, narrowed := true }
def FnPXPointUptoSaid : Prop := fnPXPointUptoRow.holds Try.pinned (OpenSpec.upto fnPXPointSpec)

/-- 'laws.FnPXCropped', WHERE WHAT IT READS IS OF BULK AT MOST 1048576: true; the input reads as it did. -/
def fnPXCroppedUptoRow : OpenClaim := { program := "ytimfaplnhlnjlaa", sum := "33bfcdaf79169bb821724449b4df563b0cf6002f25b6c302ac0a7fc0fe8653f1", func := "given.example/pub-quietzone/laws.FnPXCropped", spec := "fnPXCropped", unfollowed := true, recurses := true, apart := false, narrowed := true }
def FnPXCroppedUptoSaid : Prop := fnPXCroppedUptoRow.holds Try.pinned (OpenSpec.upto fnPXCroppedSpec)

/-- 'laws.FnPXRow', WHERE WHAT IT READS IS OF BULK AT MOST 1048576: true; the input reads as it did. -/
def fnPXRowUptoRow : OpenClaim := { program := "ytimfaplnhlnjlaa", sum := "33bfcdaf79169bb821724449b4df563b0cf6002f25b6c302ac0a7fc0fe8653f1", func := "given.example/pub-quietzone/laws.FnPXRow", spec := "fnPXRow", unfollowed := true, recurses := true, apart := false, narrowed := true }
def FnPXRowUptoSaid : Prop := fnPXRowUptoRow.holds Try.pinned (OpenSpec.upto fnPXRowSpec)

/-- 'laws.FnPXNegative', WHERE WHAT IT READS IS OF BULK AT MOST 1048576: true; the input reads as it did. -/
def fnPXNegativeUptoRow : OpenClaim := { program := "ytimfaplnhlnjlaa", sum := "33bfcdaf79169bb821724449b4df563b0cf6002f25b6c302ac0a7fc0fe8653f1", func := "given.example/pub-quietzone/laws.FnPXNegative", spec := "fnPXNegative", unfollowed := true, recurses := true, apart := false, narrowed := true }
def FnPXNegativeUptoSaid : Prop := fnPXNegativeUptoRow.holds Try.pinned (OpenSpec.upto fnPXNegativeSpec)

end Rows
end Go.Proofs.Ytimfaplnhlnjlaa
