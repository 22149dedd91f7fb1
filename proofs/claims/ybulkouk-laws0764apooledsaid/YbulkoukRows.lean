/-
  No cell of these rows narrows 'for every input' (looked for: loops, veiled, ifaces, maps, wideKeys, modest, calm, conditions, laid).
  DERIVED. THE GIVEN ROWS OF THIS SEAT. 2 by the template 'for every input the law returns true; each argument reads behind the call as it read before'; 0 by the template 'total and deterministic' (their statements: YbulkoukTotals.lean).
  GIVEN WITH THE SEED: the statements are not yours to turn. If you find one false, say at which input.
  Laid BY PROGRAM, IN A SANDBOX (cutbox-rows.mjs): the forced cells as the released guide's own fill.sh prints them over the translation 1060f190e28cdc02… (all of the seat's roots in one cut). By AI agents, Wed Nov 11 2026. No macro, syntax, notation, axiom, sorry.
-/
import Derived.Test.YbulkoukChecked
import GoSem.Claim
import GoSem.ClaimJoined
import GoSem.ClaimMapViews
import Derived.JoinedTies
import Derived.KernelRfl
namespace Go.Proofs.Ybulkouk
/- THE CELL 'sum', in the pinned program and in every row, IS THE sha256 OF THE DUMP (.gsa) THAT YbulkoukProg.lean LOADS. Nothing in Lean hashes anything: it is a label: what it is worth is what the hold of that sum in a sandbox is worth. -/
noncomputable def Yba.pinned : Pinned := { name := "ybulkouk", sum := "1060f190e28cdc024201ed76cb198de434a31ca3a3f8e1293b754b2ebb83ca99", checked := Yba.checked }
namespace Rows
def none {H : Type} : Left H := { results := [], args := [] }

/-- 'sluice.LawS0764AFresh': WHATEVER THE INPUT: true; the input reads as it did. -/
def lawS0764AFreshSpec : ChangeSpec := { name := "lawS0764AFresh", fn := fun _ => fun
  | [d1, d2] => { results := [.lit (.bool true)], args := [d1, d2] }
  | _ => none }
def lawS0764AFreshRow : OpenClaim := { program := "ybulkouk", sum := "1060f190e28cdc024201ed76cb198de434a31ca3a3f8e1293b754b2ebb83ca99", func := "example.com/sluice/sluice.LawS0764AFresh", spec := "lawS0764AFresh", apart := false }
def LawS0764AFreshSaid : Prop := lawS0764AFreshRow.holds Yba.pinned (OpenSpec.ofChange lawS0764AFreshSpec)

/-- ITS FALSE NEIGHBOUR: 'it returns false'. Refute it at one input. -/
def lawS0764AFreshWrong : ChangeSpec := { name := "lawS0764AFresh", fn := fun _ => fun
  | [d1, d2] => { results := [.lit (.bool false)], args := [d1, d2] }
  | _ => none }
def LawS0764AFreshWrongFalsely : Prop := lawS0764AFreshRow.holds Yba.pinned (OpenSpec.ofChange lawS0764AFreshWrong)

/-- 'sluice.LawS0764APooled': WHATEVER THE INPUT: true; the input reads as it did. -/
def lawS0764APooledSpec : ChangeSpec := { name := "lawS0764APooled", fn := fun _ => fun
  | [d1, d2, d3] => { results := [.lit (.bool true)], args := [d1, d2, d3] }
  | _ => none }
def lawS0764APooledRow : OpenClaim := { program := "ybulkouk", sum := "1060f190e28cdc024201ed76cb198de434a31ca3a3f8e1293b754b2ebb83ca99", func := "example.com/sluice/sluice.LawS0764APooled", spec := "lawS0764APooled", apart := false }
def LawS0764APooledSaid : Prop := lawS0764APooledRow.holds Yba.pinned (OpenSpec.ofChange lawS0764APooledSpec)

/-- ITS FALSE NEIGHBOUR: 'it returns false'. Refute it at one input. -/
def lawS0764APooledWrong : ChangeSpec := { name := "lawS0764APooled", fn := fun _ => fun
  | [d1, d2, d3] => { results := [.lit (.bool false)], args := [d1, d2, d3] }
  | _ => none }
def LawS0764APooledWrongFalsely : Prop := lawS0764APooledRow.holds Yba.pinned (OpenSpec.ofChange lawS0764APooledWrong)

end Rows
end Go.Proofs.Ybulkouk
