/-
  DERIVED. GIVEN WITH THE SEED: THE CARDS: each row of YbulkpbkDoorRows.lean that lists a variable, with what it lists TIED to the program's text (the seventh form; the later family's looks); each row that meets fmt, with fmt's text TOLD by the authors' own Lean function (tested against real Go, not proved from fmt's source: count such statements apart). THE CARD IS WHAT COUNTS. Prove the row's statement (the work); the ties are given (YbulkpbkDoorTie.lean); close each card by the builder's one call (the guide's Derived/Test/ToyasCard.lean, 'card_holds'). Laid BY PROGRAM, IN A SANDBOX (cutbox-door.mjs). By AI agents, Wed Nov 11 2026. No macro, syntax, notation, axiom, sorry.
-/
import Derived.Test.YbulkpbkDoorRows
import GoSem.ClaimSeven
namespace Go.Proofs.YbulkpbkDoor
namespace Rows

/-- THE TIED CARD OF 'nbd.LawS0777BLookup16'. -/
def lawS0777BLookup16Card : Claim7 := { stood := { row := lawS0777BLookup16Row, standIns := [], harness := (true, "fc4ec7542cf56e21ff08672a87ccf78a265aebf17e02f74ba5a99a2fe15c1fdb"), looks := false }, kinds := [], alts := [], laidByText := true, laidKinds := [.data, .data, .data], laidTests := true, laidLooks := .later }
def LawS0777BLookup16CardSaid : Prop := Claim7.holds Ybad.pinned (.plain (OpenSpec.ofChange lawS0777BLookup16Spec)) lawS0777BLookup16Card

/-- THE TIED CARD OF 'nbd.LawS0777BLookup32'. -/
def lawS0777BLookup32Card : Claim7 := { stood := { row := lawS0777BLookup32Row, standIns := [], harness := (true, "fc4ec7542cf56e21ff08672a87ccf78a265aebf17e02f74ba5a99a2fe15c1fdb"), looks := false }, kinds := [], alts := [], laidByText := true, laidKinds := [.data, .data, .data], laidTests := true, laidLooks := .later }
def LawS0777BLookup32CardSaid : Prop := Claim7.holds Ybad.pinned (.plain (OpenSpec.ofChange lawS0777BLookup32Spec)) lawS0777BLookup32Card
end Rows
end Go.Proofs.YbulkpbkDoor
