/-
  No cell of these rows narrows 'for every input' (looked for: loops, veiled, ifaces, maps, wideKeys, modest, calm, conditions, laid).
  DERIVED. THE GIVEN ROWS OF THIS SEAT. 4 by the template 'for every input the law returns true; each argument reads behind the call as it read before'; 0 by the template 'total and deterministic' (their statements: YtelmcpolmcfmpaaTotals.lean).
  GIVEN WITH THE SEED: the statements are not yours to turn. If you find one false, say at which input.
  Laid BY PROGRAM, IN A SANDBOX (cutbox-rows.mjs): the forced cells as the released guide's own fill.sh prints them over the translation a39c3cea94affce3… (all of the seat's roots in one cut). By AI agents, Wed Nov 11 2026. No macro, syntax, notation, axiom, sorry.
-/
import Derived.Test.YtelmcpolmcfmpaaChecked
import GoSem.Claim
import GoSem.ClaimJoined
import GoSem.ClaimMapViews
import Derived.JoinedTies
import Derived.KernelRfl
namespace Go.Proofs.Ytelmcpolmcfmpaa
/- THE CELL 'sum', in the pinned program and in every row, IS THE sha256 OF THE DUMP (.gsa) THAT YtelmcpolmcfmpaaProg.lean LOADS. Nothing in Lean hashes anything: it is a label: what it is worth is what the hold of that sum in a sandbox is worth. -/
noncomputable def Try.pinned : Pinned := { name := "ytelmcpolmcfmpaa", sum := "a39c3cea94affce3b9d4fb5838a4ecad4527a14e0e90d6ff16e05bc19673ec2f", checked := Try.checked }
namespace Rows
def none {H : Type} : Left H := { results := [], args := [] }

/-- 'laws.FnWithoutComments': WHATEVER THE INPUT: true; the input reads as it did. -/
def fnWithoutCommentsSpec : ChangeSpec := { name := "fnWithoutComments", fn := fun _ => fun
  | [d] => { results := [.lit (.bool true)], args := [d] }
  | _ => none }
def fnWithoutCommentsRow : OpenClaim := { program := "ytelmcpolmcfmpaa", sum := "a39c3cea94affce3b9d4fb5838a4ecad4527a14e0e90d6ff16e05bc19673ec2f", func := "given.example/pub-rondel/laws.FnWithoutComments", spec := "fnWithoutComments", plainKeys := false, apart := false }
def FnWithoutCommentsSaid : Prop := fnWithoutCommentsRow.holds Try.pinned (OpenSpec.ofChange fnWithoutCommentsSpec)

/-- ITS FALSE NEIGHBOUR: 'it returns false'. Refute it at one input. -/
def fnWithoutCommentsWrong : ChangeSpec := { name := "fnWithoutComments", fn := fun _ => fun
  | [d] => { results := [.lit (.bool false)], args := [d] }
  | _ => none }
def FnWithoutCommentsWrongFalsely : Prop := fnWithoutCommentsRow.holds Try.pinned (OpenSpec.ofChange fnWithoutCommentsWrong)

/-- 'laws.FnKeywordKind': WHATEVER THE INPUT: true; the input reads as it did. -/
def fnKeywordKindSpec : ChangeSpec := { name := "fnKeywordKind", fn := fun _ => fun
  | [d] => { results := [.lit (.bool true)], args := [d] }
  | _ => none }
def fnKeywordKindRow : OpenClaim := { program := "ytelmcpolmcfmpaa", sum := "a39c3cea94affce3b9d4fb5838a4ecad4527a14e0e90d6ff16e05bc19673ec2f", func := "given.example/pub-rondel/laws.FnKeywordKind", spec := "fnKeywordKind", plainKeys := false, apart := false }
def FnKeywordKindSaid : Prop := fnKeywordKindRow.holds Try.pinned (OpenSpec.ofChange fnKeywordKindSpec)

/-- ITS FALSE NEIGHBOUR: 'it returns false'. Refute it at one input. -/
def fnKeywordKindWrong : ChangeSpec := { name := "fnKeywordKind", fn := fun _ => fun
  | [d] => { results := [.lit (.bool false)], args := [d] }
  | _ => none }
def FnKeywordKindWrongFalsely : Prop := fnKeywordKindRow.holds Try.pinned (OpenSpec.ofChange fnKeywordKindWrong)

/-- 'laws.FnFodderMove': WHATEVER THE INPUT: true; the input reads as it did. -/
def fnFodderMoveSpec : ChangeSpec := { name := "fnFodderMove", fn := fun _ => fun
  | [d1, d2] => { results := [.lit (.bool true)], args := [d1, d2] }
  | _ => none }
def fnFodderMoveRow : OpenClaim := { program := "ytelmcpolmcfmpaa", sum := "a39c3cea94affce3b9d4fb5838a4ecad4527a14e0e90d6ff16e05bc19673ec2f", func := "given.example/pub-rondel/laws.FnFodderMove", spec := "fnFodderMove", plainKeys := false, apart := false }
def FnFodderMoveSaid : Prop := fnFodderMoveRow.holds Try.pinned (OpenSpec.ofChange fnFodderMoveSpec)

/-- ITS FALSE NEIGHBOUR: 'it returns false'. Refute it at one input. -/
def fnFodderMoveWrong : ChangeSpec := { name := "fnFodderMove", fn := fun _ => fun
  | [d1, d2] => { results := [.lit (.bool false)], args := [d1, d2] }
  | _ => none }
def FnFodderMoveWrongFalsely : Prop := fnFodderMoveRow.holds Try.pinned (OpenSpec.ofChange fnFodderMoveWrong)

/-- 'laws.FnNumNegate': WHATEVER THE INPUT: true; the input reads as it did. -/
def fnNumNegateSpec : ChangeSpec := { name := "fnNumNegate", fn := fun _ => fun
  | [d] => { results := [.lit (.bool true)], args := [d] }
  | _ => none }
def fnNumNegateRow : OpenClaim := { program := "ytelmcpolmcfmpaa", sum := "a39c3cea94affce3b9d4fb5838a4ecad4527a14e0e90d6ff16e05bc19673ec2f", func := "given.example/pub-rondel/laws.FnNumNegate", spec := "fnNumNegate", inPlace := ["math.Float64bits", "math.Float64frombits"], plainKeys := false, apart := false }
def FnNumNegateSaid : Prop := fnNumNegateRow.holds Try.pinned (OpenSpec.ofChange fnNumNegateSpec)

/-- ITS FALSE NEIGHBOUR: 'it returns false'. Refute it at one input. -/
def fnNumNegateWrong : ChangeSpec := { name := "fnNumNegate", fn := fun _ => fun
  | [d] => { results := [.lit (.bool false)], args := [d] }
  | _ => none }
def FnNumNegateWrongFalsely : Prop := fnNumNegateRow.holds Try.pinned (OpenSpec.ofChange fnNumNegateWrong)

/- THE SECOND FORM. 'bulk': how many values and letters a reading holds, each counted each time it is reached (what is shared counts as often as it is met; a slice's spare places count too). A statement '..UptoSaid' is the law's where the arguments, and the package variables that the reading takes, are together of bulk at most 1048576: NARROWER than '..Said'. Prove '..Said' where nothing that the law and all that it calls make is longer than what came in: it says more and counts as full. Else prove '..UptoSaid'. A law counts once. -/
mutual
def uptoBulk {H : Type} : DataW H → Nat
  | .lit (.string bytes) => bytes.length + 1
  | .lit _ => 1
  | .nil => 1
  | .ptr d => uptoBulk d + 1
  | .slice elems spare => uptoBulkAll elems + uptoBulkAll spare + 1
  | .agg parts => uptoBulkAll parts + 1
  | .iface _ d => uptoBulk d + 1
  | .map entries => uptoBulkEntries entries + 1
  | .held _ => 1
def uptoBulkAll {H : Type} : List (DataW H) → Nat
  | [] => 0
  | d :: r => uptoBulk d + uptoBulkAll r
def uptoBulkEntries {H : Type} : List (Lit × DataW H) → Nat
  | [] => 0
  | x :: r => uptoBulkEntry x + uptoBulkEntries r
def uptoBulkEntry {H : Type} : Lit × DataW H → Nat
  | (.string bytes, d) => bytes.length + uptoBulk d + 1
  | (_, d) => uptoBulk d + 1
 end
def uptoSmall : (H : Type) → List (DataW H) → Bool := fun _ ds => decide (uptoBulkAll ds ≤ 1048576)
def OpenSpec.upto (s : _root_.Go.ChangeSpec) : _root_.Go.OpenSpec := { _root_.Go.OpenSpec.ofChange s with cond := some uptoSmall }

/-- 'laws.FnWithoutComments', WHERE WHAT IT READS IS OF BULK AT MOST 1048576: true; the input reads as it did. -/
def fnWithoutCommentsUptoRow : OpenClaim := { program := "ytelmcpolmcfmpaa", sum := "a39c3cea94affce3b9d4fb5838a4ecad4527a14e0e90d6ff16e05bc19673ec2f", func := "given.example/pub-rondel/laws.FnWithoutComments", spec := "fnWithoutComments", plainKeys := false, apart := false, narrowed := true }
def FnWithoutCommentsUptoSaid : Prop := fnWithoutCommentsUptoRow.holds Try.pinned (OpenSpec.upto fnWithoutCommentsSpec)

/-- 'laws.FnKeywordKind', WHERE WHAT IT READS IS OF BULK AT MOST 1048576: true; the input reads as it did. -/
def fnKeywordKindUptoRow : OpenClaim := { program := "ytelmcpolmcfmpaa", sum := "a39c3cea94affce3b9d4fb5838a4ecad4527a14e0e90d6ff16e05bc19673ec2f", func := "given.example/pub-rondel/laws.FnKeywordKind", spec := "fnKeywordKind", plainKeys := false, apart := false, narrowed := true }
def FnKeywordKindUptoSaid : Prop := fnKeywordKindUptoRow.holds Try.pinned (OpenSpec.upto fnKeywordKindSpec)

/-- 'laws.FnFodderMove', WHERE WHAT IT READS IS OF BULK AT MOST 1048576: true; the input reads as it did. -/
def fnFodderMoveUptoRow : OpenClaim := { program := "ytelmcpolmcfmpaa", sum := "a39c3cea94affce3b9d4fb5838a4ecad4527a14e0e90d6ff16e05bc19673ec2f", func := "given.example/pub-rondel/laws.FnFodderMove", spec := "fnFodderMove", plainKeys := false, apart := false, narrowed := true }
def FnFodderMoveUptoSaid : Prop := fnFodderMoveUptoRow.holds Try.pinned (OpenSpec.upto fnFodderMoveSpec)

/-- 'laws.FnNumNegate', WHERE WHAT IT READS IS OF BULK AT MOST 1048576: true; the input reads as it did. -/
def fnNumNegateUptoRow : OpenClaim := { program := "ytelmcpolmcfmpaa", sum := "a39c3cea94affce3b9d4fb5838a4ecad4527a14e0e90d6ff16e05bc19673ec2f", func := "given.example/pub-rondel/laws.FnNumNegate", spec := "fnNumNegate", inPlace := ["math.Float64bits", "math.Float64frombits"], plainKeys := false, apart := false, narrowed := true }
def FnNumNegateUptoSaid : Prop := fnNumNegateUptoRow.holds Try.pinned (OpenSpec.upto fnNumNegateSpec)

end Rows
end Go.Proofs.Ytelmcpolmcfmpaa
