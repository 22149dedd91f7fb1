/-
  No cell of these rows narrows 'for every input' (looked for: loops, veiled, ifaces, maps, wideKeys, modest, calm, conditions, laid).
  DERIVED. THE GIVEN ROWS OF THIS SEAT. 3 by the template 'for every input the law returns true; each argument reads behind the call as it read before'; 0 by the template 'total and deterministic' (their statements: YbulkoysTotals.lean).
  GIVEN WITH THE SEED: the statements are not yours to turn. If you find one false, say at which input.
  Laid BY PROGRAM, IN A SANDBOX (cutbox-rows.mjs): the forced cells as the released guide's own fill.sh prints them over the translation b83c8d518c59aae0… (all of the seat's roots in one cut). By AI agents, Wed Nov 11 2026. No macro, syntax, notation, axiom, sorry.
-/
import Derived.Test.YbulkoysChecked
import GoSem.Claim
import GoSem.ClaimJoined
import GoSem.ClaimMapViews
import Derived.JoinedTies
import Derived.KernelRfl
namespace Go.Proofs.Ybulkoys
/- THE CELL 'sum', in the pinned program and in every row, IS THE sha256 OF THE DUMP (.gsa) THAT YbulkoysProg.lean LOADS. Nothing in Lean hashes anything: it is a label: what it is worth is what the hold of that sum in a sandbox is worth. -/
noncomputable def Yba.pinned : Pinned := { name := "ybulkoys", sum := "b83c8d518c59aae048601cc83fc706ea0fa0d989aef73f591fa3d491da4ba4da", checked := Yba.checked }
namespace Rows
def none {H : Type} : Left H := { results := [], args := [] }

/-- 'rangekeeper.LawS0772CSpec': WHATEVER THE INPUT: true; the input reads as it did. -/
def lawS0772CSpecSpec : ChangeSpec := { name := "lawS0772CSpec", fn := fun _ => fun
  | [d] => { results := [.lit (.bool true)], args := [d] }
  | _ => none }
def lawS0772CSpecRow : OpenClaim := { program := "ybulkoys", sum := "b83c8d518c59aae048601cc83fc706ea0fa0d989aef73f591fa3d491da4ba4da", func := "example.com/rangekeeper/rangekeeper.LawS0772CSpec", spec := "lawS0772CSpec", apart := false }
def LawS0772CSpecSaid : Prop := lawS0772CSpecRow.holds Yba.pinned (OpenSpec.ofChange lawS0772CSpecSpec)

/-- ITS FALSE NEIGHBOUR: 'it returns false'. Refute it at one input. -/
def lawS0772CSpecWrong : ChangeSpec := { name := "lawS0772CSpec", fn := fun _ => fun
  | [d] => { results := [.lit (.bool false)], args := [d] }
  | _ => none }
def LawS0772CSpecWrongFalsely : Prop := lawS0772CSpecRow.holds Yba.pinned (OpenSpec.ofChange lawS0772CSpecWrong)

/-- 'rangekeeper.LawS0772CBuilt': WHATEVER THE INPUT: true; the input reads as it did. -/
def lawS0772CBuiltSpec : ChangeSpec := { name := "lawS0772CBuilt", fn := fun _ => fun
  | [d1, d2] => { results := [.lit (.bool true)], args := [d1, d2] }
  | _ => none }
def lawS0772CBuiltRow : OpenClaim := { program := "ybulkoys", sum := "b83c8d518c59aae048601cc83fc706ea0fa0d989aef73f591fa3d491da4ba4da", func := "example.com/rangekeeper/rangekeeper.LawS0772CBuilt", spec := "lawS0772CBuilt", apart := false }
def LawS0772CBuiltSaid : Prop := lawS0772CBuiltRow.holds Yba.pinned (OpenSpec.ofChange lawS0772CBuiltSpec)

/-- ITS FALSE NEIGHBOUR: 'it returns false'. Refute it at one input. -/
def lawS0772CBuiltWrong : ChangeSpec := { name := "lawS0772CBuilt", fn := fun _ => fun
  | [d1, d2] => { results := [.lit (.bool false)], args := [d1, d2] }
  | _ => none }
def LawS0772CBuiltWrongFalsely : Prop := lawS0772CBuiltRow.holds Yba.pinned (OpenSpec.ofChange lawS0772CBuiltWrong)

/-- 'rangekeeper.LawS0772CBad': WHATEVER THE INPUT: true; the input reads as it did. -/
def lawS0772CBadSpec : ChangeSpec := { name := "lawS0772CBad", fn := fun _ => fun
  | [d1, d2, d3, d4] => { results := [.lit (.bool true)], args := [d1, d2, d3, d4] }
  | _ => none }
def lawS0772CBadRow : OpenClaim := { program := "ybulkoys", sum := "b83c8d518c59aae048601cc83fc706ea0fa0d989aef73f591fa3d491da4ba4da", func := "example.com/rangekeeper/rangekeeper.LawS0772CBad", spec := "lawS0772CBad", apart := false }
def LawS0772CBadSaid : Prop := lawS0772CBadRow.holds Yba.pinned (OpenSpec.ofChange lawS0772CBadSpec)

/-- ITS FALSE NEIGHBOUR: 'it returns false'. Refute it at one input. -/
def lawS0772CBadWrong : ChangeSpec := { name := "lawS0772CBad", fn := fun _ => fun
  | [d1, d2, d3, d4] => { results := [.lit (.bool false)], args := [d1, d2, d3, d4] }
  | _ => none }
def LawS0772CBadWrongFalsely : Prop := lawS0772CBadRow.holds Yba.pinned (OpenSpec.ofChange lawS0772CBadWrong)

end Rows
end Go.Proofs.Ybulkoys
