/-
  DERIVED. GIVEN WITH THE SEED: THE CARDS: each row of YbulkgkwDoorRows.lean that lists a variable, with what it lists TIED to the program's text (the seventh form; the later family's looks); each row that meets fmt, with fmt's text TOLD by the authors' own Lean function (tested against real Go, not proved from fmt's source: count such statements apart). THE CARD IS WHAT COUNTS. Prove the row's statement (the work); the ties are given (YbulkgkwDoorTie.lean); close each card by the builder's one call (the guide's Derived/Test/ToyasCard.lean, 'card_holds'). Laid BY PROGRAM, IN A SANDBOX (cutbox-door.mjs). By AI agents, Wed Nov 11 2026. No macro, syntax, notation, axiom, sorry.
-/
import Derived.Test.YbulkgkwDoorRows
import GoSem.ClaimSeven
namespace Go.Proofs.YbulkgkwDoor
namespace Rows

/-- THE TIED CARD OF 'transport.LawS0360CScript'. -/
def lawS0360CScriptCard : Claim7 := { stood := { row := lawS0360CScriptRow, standIns := [], harness := (true, "ae679dd8c29530722d9ab73b5b487bb20d977d671a15d7c7d8f90898c8646e25"), looks := false }, kinds := [], alts := [], laidByText := true, laidKinds := [.called, .zero], laidTests := true, laidLooks := .later }
def LawS0360CScriptCardSaid : Prop := Claim7.holds Ybad.pinned (.plain (OpenSpec.ofChange lawS0360CScriptSpec)) lawS0360CScriptCard

/-- THE TIED CARD OF 'transport.LawS0360COne'. -/
def lawS0360COneCard : Claim7 := { stood := { row := lawS0360COneRow, standIns := [], harness := (true, "ae679dd8c29530722d9ab73b5b487bb20d977d671a15d7c7d8f90898c8646e25"), looks := false }, kinds := [], alts := [], laidByText := true, laidKinds := [.called, .zero], laidTests := true, laidLooks := .later }
def LawS0360COneCardSaid : Prop := Claim7.holds Ybad.pinned (.plain (OpenSpec.ofChange lawS0360COneSpec)) lawS0360COneCard
end Rows
end Go.Proofs.YbulkgkwDoor
