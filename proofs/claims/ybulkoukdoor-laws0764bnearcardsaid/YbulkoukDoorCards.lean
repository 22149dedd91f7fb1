/-
  DERIVED. GIVEN WITH THE SEED: THE CARDS: each row of YbulkoukDoorRows.lean that lists a variable, with what it lists TIED to the program's text (the seventh form; the later family's looks); each row that meets fmt, with fmt's text TOLD by the authors' own Lean function (tested against real Go, not proved from fmt's source: count such statements apart). THE CARD IS WHAT COUNTS. Prove the row's statement (the work); the ties are given (YbulkoukDoorTie.lean); close each card by the builder's one call (the guide's Derived/Test/ToyasCard.lean, 'card_holds'). Laid BY PROGRAM, IN A SANDBOX (cutbox-door.mjs). By AI agents, Wed Nov 11 2026. No macro, syntax, notation, axiom, sorry.
-/
import Derived.Test.YbulkoukDoorRows
import GoSem.ClaimSeven
namespace Go.Proofs.YbulkoukDoor
namespace Rows

/-- THE TIED CARD OF 'sluice.LawS0764BExact'. -/
def lawS0764BExactCard : Claim7 := { stood := { row := lawS0764BExactRow, standIns := [], harness := (true, "9e26cfc36d34bbf758a8113e532d2ff218d46b9dae1a501c40f8d5b9ad922644"), looks := true }, kinds := [], alts := [], laidByText := true, laidKinds := [.called], laidTests := true, laidLooks := .later }
def LawS0764BExactCardSaid : Prop := Claim7.holds Ybad.pinned (.plain (OpenSpec.ofChange lawS0764BExactSpec)) lawS0764BExactCard

/-- THE TIED CARD OF 'sluice.LawS0764BNear'. -/
def lawS0764BNearCard : Claim7 := { stood := { row := lawS0764BNearRow, standIns := [], harness := (true, "9e26cfc36d34bbf758a8113e532d2ff218d46b9dae1a501c40f8d5b9ad922644"), looks := true }, kinds := [], alts := [], laidByText := true, laidKinds := [.called], laidTests := true, laidLooks := .later }
def LawS0764BNearCardSaid : Prop := Claim7.holds Ybad.pinned (.plain (OpenSpec.ofChange lawS0764BNearSpec)) lawS0764BNearCard

/-- THE TIED CARD OF 'sluice.LawS0764CModel'. -/
def lawS0764CModelCard : Claim7 := { stood := { row := lawS0764CModelRow, standIns := [], harness := (true, "9e26cfc36d34bbf758a8113e532d2ff218d46b9dae1a501c40f8d5b9ad922644"), looks := true }, kinds := [], alts := [], laidByText := true, laidKinds := [.called, .widerDeep], laidTests := true, laidLooks := .later }
def LawS0764CModelCardSaid : Prop := Claim7.holds Ybad.pinned (.plain (OpenSpec.ofChange lawS0764CModelSpec)) lawS0764CModelCard

/-- THE TIED CARD OF 'sluice.LawS0764CLazyNoError'. -/
def lawS0764CLazyNoErrorCard : Claim7 := { stood := { row := lawS0764CLazyNoErrorRow, standIns := [], harness := (true, "9e26cfc36d34bbf758a8113e532d2ff218d46b9dae1a501c40f8d5b9ad922644"), looks := true }, kinds := [], alts := [], laidByText := true, laidKinds := [.called, .widerDeep], laidTests := true, laidLooks := .later }
def LawS0764CLazyNoErrorCardSaid : Prop := Claim7.holds Ybad.pinned (.plain (OpenSpec.ofChange lawS0764CLazyNoErrorSpec)) lawS0764CLazyNoErrorCard
end Rows
end Go.Proofs.YbulkoukDoor
