/-
  DERIVED. GIVEN WITH THE SEED: THE CARDS: each row of YtlbgmcpjdfoalaaDoorRows.lean that lists a variable, with what it lists TIED to the program's text (the seventh form; the later family's looks); each row that meets fmt, with fmt's text TOLD by the authors' own Lean function (tested against real Go, not proved from fmt's source: count such statements apart). THE CARD IS WHAT COUNTS. Prove the row's statement (the work); the ties are given (YtlbgmcpjdfoalaaDoorTie.lean); close each card by the builder's one call (the guide's Derived/Test/ToyasCard.lean, 'card_holds'). Laid BY PROGRAM, IN A SANDBOX (cutbox-door.mjs). By AI agents, Wed Nov 11 2026. No macro, syntax, notation, axiom, sorry.
-/
import Derived.Test.YtlbgmcpjdfoalaaDoorRows
import GoSem.ClaimSeven
namespace Go.Proofs.YtlbgmcpjdfoalaaDoor
namespace Rows

/-- THE TIED CARD OF 'laws.FnLineParts'. -/
def fnLinePartsCard : Claim7 := { stood := { row := fnLinePartsRow, standIns := [], harness := (true, "1c6c6aa67f3585c9a367fb93134338bad473a0a86a0664dae699f6912f7326f6"), looks := false }, kinds := [], alts := [], laidByText := true, laidKinds := [.sentinel], laidTests := true, laidLooks := .later }
def FnLinePartsCardSaid : Prop := Claim7.holds Tryd.pinned (.plain (OpenSpec.ofChange fnLinePartsSpec)) fnLinePartsCard

/-- THE TIED CARD OF 'laws.FnLineRead'. -/
def fnLineReadCard : Claim7 := { stood := { row := fnLineReadRow, standIns := [], harness := (true, "1c6c6aa67f3585c9a367fb93134338bad473a0a86a0664dae699f6912f7326f6"), looks := false }, kinds := [], alts := [], laidByText := true, laidKinds := [.data, .sentinel, .pinned], laidTests := true, laidLooks := .later }
def FnLineReadCardSaid : Prop := Claim7.holds Tryd.pinned (.plain (OpenSpec.ofChange fnLineReadSpec)) fnLineReadCard

/-- THE SECOND FORM's CARD OF 'laws.FnLineParts'. -/
def fnLinePartsUptoCard : Claim7 := { stood := { row := fnLinePartsUptoRow, standIns := [], harness := (true, "1c6c6aa67f3585c9a367fb93134338bad473a0a86a0664dae699f6912f7326f6"), looks := false }, kinds := [], alts := [], laidByText := true, laidKinds := [.sentinel], laidTests := true, laidLooks := .later }
def FnLinePartsUptoCardSaid : Prop := Claim7.holds Tryd.pinned (.plain (OpenSpec.upto fnLinePartsSpec)) fnLinePartsUptoCard

/-- THE SECOND FORM's CARD OF 'laws.FnLineRead'. -/
def fnLineReadUptoCard : Claim7 := { stood := { row := fnLineReadUptoRow, standIns := [], harness := (true, "1c6c6aa67f3585c9a367fb93134338bad473a0a86a0664dae699f6912f7326f6"), looks := false }, kinds := [], alts := [], laidByText := true, laidKinds := [.data, .sentinel, .pinned], laidTests := true, laidLooks := .later }
def FnLineReadUptoCardSaid : Prop := Claim7.holds Tryd.pinned (.plain (OpenSpec.upto fnLineReadSpec)) fnLineReadUptoCard
end Rows
end Go.Proofs.YtlbgmcpjdfoalaaDoor
