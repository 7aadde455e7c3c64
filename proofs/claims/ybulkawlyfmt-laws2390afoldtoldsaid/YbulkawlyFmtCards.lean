/-
  DERIVED. GIVEN WITH THE SEED: THE CARDS: each row of YbulkawlyFmtRows.lean that lists a variable, with what it lists TIED to the program's text (the seventh form; the later family's looks); each row that meets fmt, with fmt's text TOLD by the authors' own Lean function (tested against real Go, not proved from fmt's source: count such statements apart). THE CARD IS WHAT COUNTS. Prove the row's statement (the work); the ties are given (YbulkawlyFmtTie.lean); close each card by the builder's one call (the guide's Derived/Test/ToyasCard.lean, 'card_holds'). Laid BY PROGRAM, IN A SANDBOX (cutbox-door.mjs). By AI agents, Wed Nov 11 2026. No macro, syntax, notation, axiom, sorry.
-/
import Derived.Test.YbulkawlyFmtRows
import GoSem.ClaimSeven
namespace Go.Proofs.YbulkawlyFmt
namespace Rows

/-- THE TOLD AND TIED CARD OF 'dialplan.LawS2390AFold'. -/
def lawS2390AFoldCard : Claim7 := { stood := { row := lawS2390AFoldRow, standIns := [], harness := (true, "3e4c2ce8381bfc435a66ef117376a9bdf635c3a043a89a3c1c477f7913fe1bc2"), looks := true }, told := true, laidByText := true, laidKinds := [.data, .data, .data, .sentinel, .sentinel], laidTests := true, laidLooks := .later, goes := false }
def LawS2390AFoldToldSaid : Prop := Claim7.holds Ybaf.pinned (.plain (OpenSpec.ofChange lawS2390AFoldSpec)) lawS2390AFoldCard
/-- ITS FALSE NEIGHBOUR. Refute it at one input. -/
def LawS2390AFoldToldWrongFalsely : Prop := Claim7.holds Ybaf.pinned (.plain (OpenSpec.ofChange lawS2390AFoldWrong)) lawS2390AFoldCard
end Rows
end Go.Proofs.YbulkawlyFmt
