/-
  DERIVED. GIVEN WITH THE SEED: THE CARDS: each row of YtadehfoamdkcmaaDoorRows.lean that lists a variable, with what it lists TIED to the program's text (the seventh form; the later family's looks); each row that meets fmt, with fmt's text TOLD by the authors' own Lean function (tested against real Go, not proved from fmt's source: count such statements apart). THE CARD IS WHAT COUNTS. Prove the row's statement (the work); the ties are given (YtadehfoamdkcmaaDoorTie.lean); close each card by the builder's one call (the guide's Derived/Test/ToyasCard.lean, 'card_holds'). Laid BY PROGRAM, IN A SANDBOX (cutbox-door.mjs). By AI agents, Wed Nov 11 2026. No macro, syntax, notation, axiom, sorry.
-/
import Derived.Test.YtadehfoamdkcmaaDoorRows
import GoSem.ClaimSeven
namespace Go.Proofs.YtadehfoamdkcmaaDoor
namespace Rows

/-- THE TIED CARD OF 'laws.FnFoundDeeper'. -/
def fnFoundDeeperCard : Claim7 := { stood := { row := fnFoundDeeperRow, standIns := [], harness := (true, "531e3cefe90bde284d36af08a5d34178689e10e0f605a0c7cb78bb9be7415330"), looks := true }, kinds := [], alts := [], laidByText := true, laidKinds := [.data, .pinned], laidTests := true, laidLooks := .later }
def FnFoundDeeperCardSaid : Prop := Claim7.holds Tryd.pinned (.plain (OpenSpec.ofChange fnFoundDeeperSpec)) fnFoundDeeperCard

/-- THE TIED CARD OF 'laws.FnFoundWhere'. -/
def fnFoundWhereCard : Claim7 := { stood := { row := fnFoundWhereRow, standIns := [], harness := (true, "531e3cefe90bde284d36af08a5d34178689e10e0f605a0c7cb78bb9be7415330"), looks := true }, kinds := [], alts := [], laidByText := true, laidKinds := [.data, .pinned], laidTests := true, laidLooks := .later }
def FnFoundWhereCardSaid : Prop := Claim7.holds Tryd.pinned (.plain (OpenSpec.ofChange fnFoundWhereSpec)) fnFoundWhereCard

/-- THE TIED CARD OF 'laws.FnTextAdded'. -/
def fnTextAddedCard : Claim7 := { stood := { row := fnTextAddedRow, standIns := [], harness := (true, "531e3cefe90bde284d36af08a5d34178689e10e0f605a0c7cb78bb9be7415330"), looks := true }, kinds := [], alts := [], laidByText := true, laidKinds := [.data, .data, .data, .data, .sentinel, .pinned], laidTests := true, laidLooks := .later }
def FnTextAddedCardSaid : Prop := Claim7.holds Tryd.pinned (.plain (OpenSpec.ofChange fnTextAddedSpec)) fnTextAddedCard

/-- THE SECOND FORM's CARD OF 'laws.FnFoundDeeper'. -/
def fnFoundDeeperUptoCard : Claim7 := { stood := { row := fnFoundDeeperUptoRow, standIns := [], harness := (true, "531e3cefe90bde284d36af08a5d34178689e10e0f605a0c7cb78bb9be7415330"), looks := true }, kinds := [], alts := [], laidByText := true, laidKinds := [.data, .pinned], laidTests := true, laidLooks := .later }
def FnFoundDeeperUptoCardSaid : Prop := Claim7.holds Tryd.pinned (.plain (OpenSpec.upto fnFoundDeeperSpec)) fnFoundDeeperUptoCard

/-- THE SECOND FORM's CARD OF 'laws.FnFoundWhere'. -/
def fnFoundWhereUptoCard : Claim7 := { stood := { row := fnFoundWhereUptoRow, standIns := [], harness := (true, "531e3cefe90bde284d36af08a5d34178689e10e0f605a0c7cb78bb9be7415330"), looks := true }, kinds := [], alts := [], laidByText := true, laidKinds := [.data, .pinned], laidTests := true, laidLooks := .later }
def FnFoundWhereUptoCardSaid : Prop := Claim7.holds Tryd.pinned (.plain (OpenSpec.upto fnFoundWhereSpec)) fnFoundWhereUptoCard

/-- THE SECOND FORM's CARD OF 'laws.FnTextAdded'. -/
def fnTextAddedUptoCard : Claim7 := { stood := { row := fnTextAddedUptoRow, standIns := [], harness := (true, "531e3cefe90bde284d36af08a5d34178689e10e0f605a0c7cb78bb9be7415330"), looks := true }, kinds := [], alts := [], laidByText := true, laidKinds := [.data, .data, .data, .data, .sentinel, .pinned], laidTests := true, laidLooks := .later }
def FnTextAddedUptoCardSaid : Prop := Claim7.holds Tryd.pinned (.plain (OpenSpec.upto fnTextAddedSpec)) fnTextAddedUptoCard
end Rows
end Go.Proofs.YtadehfoamdkcmaaDoor
