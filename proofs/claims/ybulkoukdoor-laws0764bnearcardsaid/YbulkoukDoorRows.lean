/-
  NARROWER THAN 'FOR EVERY INPUT', by the rows' own cells (each row's printed sentence says how): LawS0764BExact: laid · LawS0764BNear: laid · LawS0764CModel: laid · LawS0764CLazyNoError: laid.
  DERIVED. THE GIVEN ROWS OF THIS SEAT. 4 by the template 'for every input the law returns true; each argument reads behind the call as it read before'; 0 by the template 'total and deterministic' (their statements: YbulkoukDoorTotals.lean).
  GIVEN WITH THE SEED: the statements are not yours to turn. If you find one false, say at which input.
  Laid BY PROGRAM, IN A SANDBOX (cutbox-rows.mjs): the forced cells as the released guide's own fill.sh prints them over the translation 24170c3e525699b3… (all of the seat's roots in one cut). By AI agents, Wed Nov 11 2026. No macro, syntax, notation, axiom, sorry.
-/
import Derived.Test.YbulkoukDoorChecked
import GoSem.Claim
import GoSem.ClaimJoined
import GoSem.ClaimMapViews
import Derived.JoinedTies
import Derived.KernelRfl
namespace Go.Proofs.YbulkoukDoor
/- THE CELL 'sum', in the pinned program and in every row, IS THE sha256 OF THE DUMP (.gsa) THAT YbulkoukDoorProg.lean LOADS. Nothing in Lean hashes anything: it is a label: what it is worth is what the hold of that sum in a sandbox is worth. -/
noncomputable def Ybad.pinned : Pinned := { name := "ybulkoukdoor", sum := "24170c3e525699b3bc9ceb1fd0a28ce70a03f113acd0009248867cf04e1cbfcf", checked := Ybad.checked }
namespace Rows
def none {H : Type} : Left H := { results := [], args := [] }

/- WHAT THE LISTED PACKAGE-LEVEL VARIABLES READ AS WHEN THE CALL BEGINS. Each datum BY PROGRAM (the guide's laid-datum.mjs) off the statement by which the dump's own 'gosem.cut.vars' lays the variable. In a bare row this is a premise. The card (YbulkoukDoorCards.lean) ties it to the program's text. -/
def laid_encoding_csv_ErrFieldCount {H : Type} : DataW H := .iface "*errors.errorString" (.ptr (.agg [.lit (.string [119, 114, 111, 110, 103, 32, 110, 117, 109, 98, 101, 114, 32, 111, 102, 32, 102, 105, 101, 108, 100, 115])]))
def laid_encoding_csv_ErrQuote {H : Type} : DataW H := .iface "*errors.errorString" (.ptr (.agg [.lit (.string [101, 120, 116, 114, 97, 110, 101, 111, 117, 115, 32, 111, 114, 32, 109, 105, 115, 115, 105, 110, 103, 32, 34, 32, 105, 110, 32, 113, 117, 111, 116, 101, 100, 45, 102, 105, 101, 108, 100])]))
def laid_example_com_sluice_sluice_crlf {H : Type} : DataW H := .slice [.lit (.int .u8 13), .lit (.int .u8 10)] []

/-- 'sluice.LawS0764BExact': WHATEVER THE INPUT: true; the input reads as it did. -/
def lawS0764BExactSpec : ChangeSpec := { name := "lawS0764BExact", fn := fun _ => fun
  | [d1, d2, d3] => { results := [.lit (.bool true)], args := [d1, d2, d3] }
  | _ => none }
def lawS0764BExactRow : OpenClaim := { program := "ybulkoukdoor", sum := "24170c3e525699b3bc9ceb1fd0a28ce70a03f113acd0009248867cf04e1cbfcf", func := "example.com/sluice/sluice.LawS0764BExact", spec := "lawS0764BExact", named := ["encoding/csv.ErrFieldCount"], apart := false, laid := [("encoding/csv.ErrFieldCount", laid_encoding_csv_ErrFieldCount)] }
def LawS0764BExactSaid : Prop := lawS0764BExactRow.holds Ybad.pinned (OpenSpec.ofChange lawS0764BExactSpec)

/-- ITS FALSE NEIGHBOUR: 'it returns false'. Refute it at one input. -/
def lawS0764BExactWrong : ChangeSpec := { name := "lawS0764BExact", fn := fun _ => fun
  | [d1, d2, d3] => { results := [.lit (.bool false)], args := [d1, d2, d3] }
  | _ => none }
def LawS0764BExactWrongFalsely : Prop := lawS0764BExactRow.holds Ybad.pinned (OpenSpec.ofChange lawS0764BExactWrong)

/-- 'sluice.LawS0764BNear': WHATEVER THE INPUT: true; the input reads as it did. -/
def lawS0764BNearSpec : ChangeSpec := { name := "lawS0764BNear", fn := fun _ => fun
  | [d1, d2, d3] => { results := [.lit (.bool true)], args := [d1, d2, d3] }
  | _ => none }
def lawS0764BNearRow : OpenClaim := { program := "ybulkoukdoor", sum := "24170c3e525699b3bc9ceb1fd0a28ce70a03f113acd0009248867cf04e1cbfcf", func := "example.com/sluice/sluice.LawS0764BNear", spec := "lawS0764BNear", named := ["encoding/csv.ErrFieldCount"], apart := false, laid := [("encoding/csv.ErrFieldCount", laid_encoding_csv_ErrFieldCount)] }
def LawS0764BNearSaid : Prop := lawS0764BNearRow.holds Ybad.pinned (OpenSpec.ofChange lawS0764BNearSpec)

/-- ITS FALSE NEIGHBOUR: 'it returns false'. Refute it at one input. -/
def lawS0764BNearWrong : ChangeSpec := { name := "lawS0764BNear", fn := fun _ => fun
  | [d1, d2, d3] => { results := [.lit (.bool false)], args := [d1, d2, d3] }
  | _ => none }
def LawS0764BNearWrongFalsely : Prop := lawS0764BNearRow.holds Ybad.pinned (OpenSpec.ofChange lawS0764BNearWrong)

/-- 'sluice.LawS0764CModel': WHATEVER THE INPUT: true; the input reads as it did. -/
def lawS0764CModelSpec : ChangeSpec := { name := "lawS0764CModel", vars := ["example.com/sluice/sluice.crlf"], fn := fun _ => fun
  | [d1, d2, d3, g1] => { results := [.lit (.bool true)], args := [d1, d2, d3], vars := [g1] }
  | _ => none }
def lawS0764CModelRow : OpenClaim := { program := "ybulkoukdoor", sum := "24170c3e525699b3bc9ceb1fd0a28ce70a03f113acd0009248867cf04e1cbfcf", func := "example.com/sluice/sluice.LawS0764CModel", spec := "lawS0764CModel", inPlace := ["internal/bytealg.IndexByte", "internal/bytealg.Count", "internal/bytealg.Index"], named := ["encoding/csv.ErrQuote", "internal/bytealg.MaxLen", "example.com/sluice/sluice.crlf"], apart := false, laid := [("encoding/csv.ErrQuote", laid_encoding_csv_ErrQuote), ("example.com/sluice/sluice.crlf", laid_example_com_sluice_sluice_crlf)] }
def LawS0764CModelSaid : Prop := lawS0764CModelRow.holds Ybad.pinned (OpenSpec.ofChange lawS0764CModelSpec)

/-- ITS FALSE NEIGHBOUR: 'it returns false'. Refute it at one input. -/
def lawS0764CModelWrong : ChangeSpec := { name := "lawS0764CModel", vars := ["example.com/sluice/sluice.crlf"], fn := fun _ => fun
  | [d1, d2, d3, g1] => { results := [.lit (.bool false)], args := [d1, d2, d3], vars := [g1] }
  | _ => none }
def LawS0764CModelWrongFalsely : Prop := lawS0764CModelRow.holds Ybad.pinned (OpenSpec.ofChange lawS0764CModelWrong)

/-- 'sluice.LawS0764CLazyNoError': WHATEVER THE INPUT: true; the input reads as it did. -/
def lawS0764CLazyNoErrorSpec : ChangeSpec := { name := "lawS0764CLazyNoError", vars := ["example.com/sluice/sluice.crlf"], fn := fun _ => fun
  | [d1, d2, g1] => { results := [.lit (.bool true)], args := [d1, d2], vars := [g1] }
  | _ => none }
def lawS0764CLazyNoErrorRow : OpenClaim := { program := "ybulkoukdoor", sum := "24170c3e525699b3bc9ceb1fd0a28ce70a03f113acd0009248867cf04e1cbfcf", func := "example.com/sluice/sluice.LawS0764CLazyNoError", spec := "lawS0764CLazyNoError", inPlace := ["internal/bytealg.IndexByte", "internal/bytealg.Count", "internal/bytealg.Index"], named := ["encoding/csv.ErrQuote", "internal/bytealg.MaxLen", "example.com/sluice/sluice.crlf"], apart := false, laid := [("encoding/csv.ErrQuote", laid_encoding_csv_ErrQuote), ("example.com/sluice/sluice.crlf", laid_example_com_sluice_sluice_crlf)] }
def LawS0764CLazyNoErrorSaid : Prop := lawS0764CLazyNoErrorRow.holds Ybad.pinned (OpenSpec.ofChange lawS0764CLazyNoErrorSpec)

/-- ITS FALSE NEIGHBOUR: 'it returns false'. Refute it at one input. -/
def lawS0764CLazyNoErrorWrong : ChangeSpec := { name := "lawS0764CLazyNoError", vars := ["example.com/sluice/sluice.crlf"], fn := fun _ => fun
  | [d1, d2, g1] => { results := [.lit (.bool false)], args := [d1, d2], vars := [g1] }
  | _ => none }
def LawS0764CLazyNoErrorWrongFalsely : Prop := lawS0764CLazyNoErrorRow.holds Ybad.pinned (OpenSpec.ofChange lawS0764CLazyNoErrorWrong)

end Rows
end Go.Proofs.YbulkoukDoor
