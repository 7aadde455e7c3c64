/-
  DERIVED. GIVEN WITH THE SEED: THE CARDS: each row of YbulkawhcDoorRows.lean that lists a variable, with what it lists TIED to the program's text (the seventh form; the later family's looks); each row that meets fmt, with fmt's text TOLD by the authors' own Lean function (tested against real Go, not proved from fmt's source: count such statements apart). THE CARD IS WHAT COUNTS. Prove the row's statement (the work); the ties are given (YbulkawhcDoorTie.lean); close each card by the builder's one call (the guide's Derived/Test/ToyasCard.lean, 'card_holds'). Laid BY PROGRAM, IN A SANDBOX (cutbox-door.mjs). By AI agents, Wed Nov 11 2026. No macro, syntax, notation, axiom, sorry.
-/
import Derived.Test.YbulkawhcDoorRows
import GoSem.ClaimSeven
namespace Go.Proofs.YbulkawhcDoor
namespace Rows

/-- THE TIED CARD OF 'libsanction.LawS2381BExact'. -/
def lawS2381BExactCard : Claim7 := { stood := { row := lawS2381BExactRow, standIns := [], harness := (true, "21174d1fbb6bdc422eac25a3d6c31c248082eec75d23214320a5da57a5f0ebf8"), looks := false }, kinds := [], alts := [], laidByText := true, laidKinds := [.data, .data, .data, .called, .mapped], laidTests := true, laidLooks := .later }
def LawS2381BExactCardSaid : Prop := Claim7.holds Ybad.pinned (.plain (OpenSpec.ofChange lawS2381BExactSpec)) lawS2381BExactCard

/-- THE TIED CARD OF 'libsanction.LawS2381BSwap'. -/
def lawS2381BSwapCard : Claim7 := { stood := { row := lawS2381BSwapRow, standIns := [], harness := (true, "21174d1fbb6bdc422eac25a3d6c31c248082eec75d23214320a5da57a5f0ebf8"), looks := false }, kinds := [], alts := [], laidByText := true, laidKinds := [.data, .data, .data, .called, .mapped], laidTests := true, laidLooks := .later }
def LawS2381BSwapCardSaid : Prop := Claim7.holds Ybad.pinned (.plain (OpenSpec.ofChange lawS2381BSwapSpec)) lawS2381BSwapCard
end Rows
end Go.Proofs.YbulkawhcDoor
