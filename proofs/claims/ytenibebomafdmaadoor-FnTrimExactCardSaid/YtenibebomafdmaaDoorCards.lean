/-
  DERIVED. GIVEN WITH THE SEED: THE CARDS: each row of YtenibebomafdmaaDoorRows.lean that lists a variable, with what it lists TIED to the program's text (the seventh form; the later family's looks); each row that meets fmt, with fmt's text TOLD by the authors' own Lean function (tested against real Go, not proved from fmt's source: count such statements apart). THE CARD IS WHAT COUNTS. Prove the row's statement (the work); the ties are given (YtenibebomafdmaaDoorTie.lean); close each card by the builder's one call (the guide's Derived/Test/ToyasCard.lean, 'card_holds'). Laid BY PROGRAM, IN A SANDBOX (cutbox-door.mjs). By AI agents, Wed Nov 11 2026. No macro, syntax, notation, axiom, sorry.
-/
import Derived.Test.YtenibebomafdmaaDoorRows
import GoSem.ClaimSeven
namespace Go.Proofs.YtenibebomafdmaaDoor
namespace Rows

/-- THE TIED CARD OF 'laws.FnTrimExact'. -/
def fnTrimExactCard : Claim7 := { stood := { row := fnTrimExactRow, standIns := [], harness := (true, "6ab13d6f41090b9dc06949d1b78286fe6a8dd6449ecd8826fc5c7e1354d50e6b"), looks := true }, kinds := [], alts := [], laidByText := true, laidKinds := [.data, .pinned], laidTests := true, laidLooks := .later }
def FnTrimExactCardSaid : Prop := Claim7.holds Tryd.pinned (.plain (OpenSpec.ofChange fnTrimExactSpec)) fnTrimExactCard

/-- THE SECOND FORM's CARD OF 'laws.FnTrimExact'. -/
def fnTrimExactUptoCard : Claim7 := { stood := { row := fnTrimExactUptoRow, standIns := [], harness := (true, "6ab13d6f41090b9dc06949d1b78286fe6a8dd6449ecd8826fc5c7e1354d50e6b"), looks := true }, kinds := [], alts := [], laidByText := true, laidKinds := [.data, .pinned], laidTests := true, laidLooks := .later }
def FnTrimExactUptoCardSaid : Prop := Claim7.holds Tryd.pinned (.plain (OpenSpec.upto fnTrimExactSpec)) fnTrimExactUptoCard
end Rows
end Go.Proofs.YtenibebomafdmaaDoor
