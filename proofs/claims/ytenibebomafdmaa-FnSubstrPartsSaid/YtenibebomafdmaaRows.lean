/-
  No cell of these rows narrows 'for every input' (looked for: loops, veiled, ifaces, maps, wideKeys, modest, calm, conditions, laid).
  DERIVED. THE GIVEN ROWS OF THIS SEAT. 6 by the template 'for every input the law returns true; each argument reads behind the call as it read before'; 0 by the template 'total and deterministic' (their statements: YtenibebomafdmaaTotals.lean).
  GIVEN WITH THE SEED: the statements are not yours to turn. If you find one false, say at which input.
  Laid BY PROGRAM, IN A SANDBOX (cutbox-rows.mjs): the forced cells as the released guide's own fill.sh prints them over the translation b9f0d3505b1b2b7f… (all of the seat's roots in one cut). By AI agents, Wed Nov 11 2026. No macro, syntax, notation, axiom, sorry.
-/
import Derived.Test.YtenibebomafdmaaChecked
import GoSem.Claim
import GoSem.ClaimJoined
import GoSem.ClaimMapViews
import Derived.JoinedTies
import Derived.KernelRfl
namespace Go.Proofs.Ytenibebomafdmaa
/- THE CELL 'sum', in the pinned program and in every row, IS THE sha256 OF THE DUMP (.gsa) THAT YtenibebomafdmaaProg.lean LOADS. Nothing in Lean hashes anything: it is a label: what it is worth is what the hold of that sum in a sandbox is worth. -/
noncomputable def Try.pinned : Pinned := { name := "ytenibebomafdmaa", sum := "b9f0d3505b1b2b7f4d9d129615cf993aa2fe8ffb8baa784b1247be39d68a9195", checked := Try.checked }
namespace Rows
def none {H : Type} : Left H := { results := [], args := [] }

/-- 'laws.FnNumsTurned': WHATEVER THE INPUT: true; the input reads as it did. -/
def fnNumsTurnedSpec : ChangeSpec := { name := "fnNumsTurned", fn := fun _ => fun
  | [d1, d2] => { results := [.lit (.bool true)], args := [d1, d2] }
  | _ => none }
def fnNumsTurnedRow : OpenClaim := { program := "ytenibebomafdmaa", sum := "b9f0d3505b1b2b7f4d9d129615cf993aa2fe8ffb8baa784b1247be39d68a9195", func := "given.example/pub-rondel/laws.FnNumsTurned", spec := "fnNumsTurned", inPlace := ["math.Float64bits", "math.Float64frombits"], plainKeys := false, apart := false }
def FnNumsTurnedSaid : Prop := fnNumsTurnedRow.holds Try.pinned (OpenSpec.ofChange fnNumsTurnedSpec)

/-- ITS FALSE NEIGHBOUR: 'it returns false'. Refute it at one input. -/
def fnNumsTurnedWrong : ChangeSpec := { name := "fnNumsTurned", fn := fun _ => fun
  | [d1, d2] => { results := [.lit (.bool false)], args := [d1, d2] }
  | _ => none }
def FnNumsTurnedWrongFalsely : Prop := fnNumsTurnedRow.holds Try.pinned (OpenSpec.ofChange fnNumsTurnedWrong)

/-- 'laws.FnNumBitAnd': WHATEVER THE INPUT: true; the input reads as it did. -/
def fnNumBitAndSpec : ChangeSpec := { name := "fnNumBitAnd", fn := fun _ => fun
  | [d1, d2] => { results := [.lit (.bool true)], args := [d1, d2] }
  | _ => none }
def fnNumBitAndRow : OpenClaim := { program := "ytenibebomafdmaa", sum := "b9f0d3505b1b2b7f4d9d129615cf993aa2fe8ffb8baa784b1247be39d68a9195", func := "given.example/pub-rondel/laws.FnNumBitAnd", spec := "fnNumBitAnd", inPlace := ["math.Float64bits", "math.Float64frombits", "math.archTrunc"], unfollowed := true, recurses := true, plainKeys := false, apart := false }
def FnNumBitAndSaid : Prop := fnNumBitAndRow.holds Try.pinned (OpenSpec.ofChange fnNumBitAndSpec)

/-- ITS FALSE NEIGHBOUR: 'it returns false'. Refute it at one input. -/
def fnNumBitAndWrong : ChangeSpec := { name := "fnNumBitAnd", fn := fun _ => fun
  | [d1, d2] => { results := [.lit (.bool false)], args := [d1, d2] }
  | _ => none }
def FnNumBitAndWrongFalsely : Prop := fnNumBitAndRow.holds Try.pinned (OpenSpec.ofChange fnNumBitAndWrong)

/-- 'laws.FnNumParts': WHATEVER THE INPUT: true; the input reads as it did. -/
def fnNumPartsSpec : ChangeSpec := { name := "fnNumParts", fn := fun _ => fun
  | [d] => { results := [.lit (.bool true)], args := [d] }
  | _ => none }
def fnNumPartsRow : OpenClaim := { program := "ytenibebomafdmaa", sum := "b9f0d3505b1b2b7f4d9d129615cf993aa2fe8ffb8baa784b1247be39d68a9195", func := "given.example/pub-rondel/laws.FnNumParts", spec := "fnNumParts", inPlace := ["math.Float64bits", "math.Float64frombits"], unfollowed := true, recurses := true, plainKeys := false, apart := false }
def FnNumPartsSaid : Prop := fnNumPartsRow.holds Try.pinned (OpenSpec.ofChange fnNumPartsSpec)

/-- ITS FALSE NEIGHBOUR: 'it returns false'. Refute it at one input. -/
def fnNumPartsWrong : ChangeSpec := { name := "fnNumParts", fn := fun _ => fun
  | [d] => { results := [.lit (.bool false)], args := [d] }
  | _ => none }
def FnNumPartsWrongFalsely : Prop := fnNumPartsRow.holds Try.pinned (OpenSpec.ofChange fnNumPartsWrong)

/-- 'laws.FnCharBack': WHATEVER THE INPUT: true; the input reads as it did. -/
def fnCharBackSpec : ChangeSpec := { name := "fnCharBack", fn := fun _ => fun
  | [d] => { results := [.lit (.bool true)], args := [d] }
  | _ => none }
def fnCharBackRow : OpenClaim := { program := "ytenibebomafdmaa", sum := "b9f0d3505b1b2b7f4d9d129615cf993aa2fe8ffb8baa784b1247be39d68a9195", func := "given.example/pub-rondel/laws.FnCharBack", spec := "fnCharBack", unfollowed := true, recurses := true, plainKeys := false, apart := false }
def FnCharBackSaid : Prop := fnCharBackRow.holds Try.pinned (OpenSpec.ofChange fnCharBackSpec)

/-- ITS FALSE NEIGHBOUR: 'it returns false'. Refute it at one input. -/
def fnCharBackWrong : ChangeSpec := { name := "fnCharBack", fn := fun _ => fun
  | [d] => { results := [.lit (.bool false)], args := [d] }
  | _ => none }
def FnCharBackWrongFalsely : Prop := fnCharBackRow.holds Try.pinned (OpenSpec.ofChange fnCharBackWrong)

/-- 'laws.FnNumBits': WHATEVER THE INPUT: true; the input reads as it did. -/
def fnNumBitsSpec : ChangeSpec := { name := "fnNumBits", fn := fun _ => fun
  | [d1, d2] => { results := [.lit (.bool true)], args := [d1, d2] }
  | _ => none }
def fnNumBitsRow : OpenClaim := { program := "ytenibebomafdmaa", sum := "b9f0d3505b1b2b7f4d9d129615cf993aa2fe8ffb8baa784b1247be39d68a9195", func := "given.example/pub-rondel/laws.FnNumBits", spec := "fnNumBits", inPlace := ["math.archTrunc", "math.Float64bits", "math.Float64frombits"], unfollowed := true, recurses := true, plainKeys := false, apart := false }
def FnNumBitsSaid : Prop := fnNumBitsRow.holds Try.pinned (OpenSpec.ofChange fnNumBitsSpec)

/-- ITS FALSE NEIGHBOUR: 'it returns false'. Refute it at one input. -/
def fnNumBitsWrong : ChangeSpec := { name := "fnNumBits", fn := fun _ => fun
  | [d1, d2] => { results := [.lit (.bool false)], args := [d1, d2] }
  | _ => none }
def FnNumBitsWrongFalsely : Prop := fnNumBitsRow.holds Try.pinned (OpenSpec.ofChange fnNumBitsWrong)

/-- 'laws.FnSubstrParts': WHATEVER THE INPUT: true; the input reads as it did. -/
def fnSubstrPartsSpec : ChangeSpec := { name := "fnSubstrParts", fn := fun _ => fun
  | [d1, d2] => { results := [.lit (.bool true)], args := [d1, d2] }
  | _ => none }
def fnSubstrPartsRow : OpenClaim := { program := "ytenibebomafdmaa", sum := "b9f0d3505b1b2b7f4d9d129615cf993aa2fe8ffb8baa784b1247be39d68a9195", func := "given.example/pub-rondel/laws.FnSubstrParts", spec := "fnSubstrParts", inPlace := ["math.Float64bits", "math.Float64frombits"], unfollowed := true, recurses := true, plainKeys := false, apart := false }
def FnSubstrPartsSaid : Prop := fnSubstrPartsRow.holds Try.pinned (OpenSpec.ofChange fnSubstrPartsSpec)

/-- ITS FALSE NEIGHBOUR: 'it returns false'. Refute it at one input. -/
def fnSubstrPartsWrong : ChangeSpec := { name := "fnSubstrParts", fn := fun _ => fun
  | [d1, d2] => { results := [.lit (.bool false)], args := [d1, d2] }
  | _ => none }
def FnSubstrPartsWrongFalsely : Prop := fnSubstrPartsRow.holds Try.pinned (OpenSpec.ofChange fnSubstrPartsWrong)

/- THE SECOND FORM. 'bulk': how many values and letters a reading holds, each counted each time it is reached (what is shared counts as often as it is met; a slice's spare places count too). A statement '..UptoSaid' is the law's where the arguments, and the package variables that the reading takes, are together of bulk at most 1048576: NARROWER than '..Said'. Prove '..Said' where nothing that the law and all that it calls make is longer than what came in: it says more and counts as full. Else prove '..UptoSaid'. A law counts once. -/
mutual
def uptoBulk {H : Type} : DataW H → Nat
  | .lit (.string bytes) => bytes.length + 1
  | .lit _ => 1
  | .nil => 1
  | .ptr d => uptoBulk d + 1
  | .slice elems spare => uptoBulkAll elems + uptoBulkAll spare + 1
  | .agg parts => uptoBulkAll parts + 1
  | .iface _ d => uptoBulk d + 1
  | .map entries => uptoBulkEntries entries + 1
  | .held _ => 1
def uptoBulkAll {H : Type} : List (DataW H) → Nat
  | [] => 0
  | d :: r => uptoBulk d + uptoBulkAll r
def uptoBulkEntries {H : Type} : List (Lit × DataW H) → Nat
  | [] => 0
  | x :: r => uptoBulkEntry x + uptoBulkEntries r
def uptoBulkEntry {H : Type} : Lit × DataW H → Nat
  | (.string bytes, d) => bytes.length + uptoBulk d + 1
  | (_, d) => uptoBulk d + 1
 end
def uptoSmall : (H : Type) → List (DataW H) → Bool := fun _ ds => decide (uptoBulkAll ds ≤ 1048576)
def OpenSpec.upto (s : _root_.Go.ChangeSpec) : _root_.Go.OpenSpec := { _root_.Go.OpenSpec.ofChange s with cond := some uptoSmall }

/-- 'laws.FnNumsTurned', WHERE WHAT IT READS IS OF BULK AT MOST 1048576: true; the input reads as it did. -/
def fnNumsTurnedUptoRow : OpenClaim := { program := "ytenibebomafdmaa", sum := "b9f0d3505b1b2b7f4d9d129615cf993aa2fe8ffb8baa784b1247be39d68a9195", func := "given.example/pub-rondel/laws.FnNumsTurned", spec := "fnNumsTurned", inPlace := ["math.Float64bits", "math.Float64frombits"], plainKeys := false, apart := false, narrowed := true }
def FnNumsTurnedUptoSaid : Prop := fnNumsTurnedUptoRow.holds Try.pinned (OpenSpec.upto fnNumsTurnedSpec)

/-- 'laws.FnNumBitAnd', WHERE WHAT IT READS IS OF BULK AT MOST 1048576: true; the input reads as it did. -/
def fnNumBitAndUptoRow : OpenClaim := { program := "ytenibebomafdmaa", sum := "b9f0d3505b1b2b7f4d9d129615cf993aa2fe8ffb8baa784b1247be39d68a9195", func := "given.example/pub-rondel/laws.FnNumBitAnd", spec := "fnNumBitAnd", inPlace := ["math.Float64bits", "math.Float64frombits", "math.archTrunc"], unfollowed := true, recurses := true, plainKeys := false, apart := false, narrowed := true }
def FnNumBitAndUptoSaid : Prop := fnNumBitAndUptoRow.holds Try.pinned (OpenSpec.upto fnNumBitAndSpec)

/-- 'laws.FnNumParts', WHERE WHAT IT READS IS OF BULK AT MOST 1048576: true; the input reads as it did. -/
def fnNumPartsUptoRow : OpenClaim := { program := "ytenibebomafdmaa", sum := "b9f0d3505b1b2b7f4d9d129615cf993aa2fe8ffb8baa784b1247be39d68a9195", func := "given.example/pub-rondel/laws.FnNumParts", spec := "fnNumParts", inPlace := ["math.Float64bits", "math.Float64frombits"], unfollowed := true, recurses := true, plainKeys := false, apart := false, narrowed := true }
def FnNumPartsUptoSaid : Prop := fnNumPartsUptoRow.holds Try.pinned (OpenSpec.upto fnNumPartsSpec)

/-- 'laws.FnCharBack', WHERE WHAT IT READS IS OF BULK AT MOST 1048576: true; the input reads as it did. -/
def fnCharBackUptoRow : OpenClaim := { program := "ytenibebomafdmaa", sum := "b9f0d3505b1b2b7f4d9d129615cf993aa2fe8ffb8baa784b1247be39d68a9195", func := "given.example/pub-rondel/laws.FnCharBack", spec := "fnCharBack", unfollowed := true, recurses := true, plainKeys := false, apart := false, narrowed := true }
def FnCharBackUptoSaid : Prop := fnCharBackUptoRow.holds Try.pinned (OpenSpec.upto fnCharBackSpec)

/-- 'laws.FnNumBits', WHERE WHAT IT READS IS OF BULK AT MOST 1048576: true; the input reads as it did. -/
def fnNumBitsUptoRow : OpenClaim := { program := "ytenibebomafdmaa", sum := "b9f0d3505b1b2b7f4d9d129615cf993aa2fe8ffb8baa784b1247be39d68a9195", func := "given.example/pub-rondel/laws.FnNumBits", spec := "fnNumBits", inPlace := ["math.archTrunc", "math.Float64bits", "math.Float64frombits"], unfollowed := true, recurses := true, plainKeys := false, apart := false, narrowed := true }
def FnNumBitsUptoSaid : Prop := fnNumBitsUptoRow.holds Try.pinned (OpenSpec.upto fnNumBitsSpec)

/-- 'laws.FnSubstrParts', WHERE WHAT IT READS IS OF BULK AT MOST 1048576: true; the input reads as it did. -/
def fnSubstrPartsUptoRow : OpenClaim := { program := "ytenibebomafdmaa", sum := "b9f0d3505b1b2b7f4d9d129615cf993aa2fe8ffb8baa784b1247be39d68a9195", func := "given.example/pub-rondel/laws.FnSubstrParts", spec := "fnSubstrParts", inPlace := ["math.Float64bits", "math.Float64frombits"], unfollowed := true, recurses := true, plainKeys := false, apart := false, narrowed := true }
def FnSubstrPartsUptoSaid : Prop := fnSubstrPartsUptoRow.holds Try.pinned (OpenSpec.upto fnSubstrPartsSpec)

end Rows
end Go.Proofs.Ytenibebomafdmaa
