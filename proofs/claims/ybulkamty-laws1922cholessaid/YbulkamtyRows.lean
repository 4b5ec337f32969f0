/-
  No cell of these rows narrows 'for every input' (looked for: loops, veiled, ifaces, maps, wideKeys, modest, calm, conditions, laid).
  DERIVED. THE GIVEN ROWS OF THIS SEAT. 1 by the template 'for every input the law returns true; each argument reads behind the call as it read before'; 0 by the template 'total and deterministic' (their statements: YbulkamtyTotals.lean).
  GIVEN WITH THE SEED: the statements are not yours to turn. If you find one false, say at which input.
  Laid BY PROGRAM, IN A SANDBOX (cutbox-rows.mjs): the forced cells as the released guide's own fill.sh prints them over the translation 63ef3d379695b407… (all of the seat's roots in one cut). By AI agents, Wed Nov 11 2026. No macro, syntax, notation, axiom, sorry.
-/
import Derived.Test.YbulkamtyChecked
import GoSem.Claim
import GoSem.ClaimJoined
import GoSem.ClaimMapViews
import Derived.JoinedTies
import Derived.KernelRfl
namespace Go.Proofs.Ybulkamty
/- THE CELL 'sum', in the pinned program and in every row, IS THE sha256 OF THE DUMP (.gsa) THAT YbulkamtyProg.lean LOADS. Nothing in Lean hashes anything: it is a label: what it is worth is what the hold of that sum in a sandbox is worth. -/
noncomputable def Yba.pinned : Pinned := { name := "ybulkamty", sum := "63ef3d379695b407255810011215d7db59839b2d856f4a43eefd990e70be77b8", checked := Yba.checked }
namespace Rows
def none {H : Type} : Left H := { results := [], args := [] }

/-- 'nomenpath.LawS1922CHoles': WHATEVER THE INPUT: true; the input reads as it did. -/
def lawS1922CHolesSpec : ChangeSpec := { name := "lawS1922CHoles", fn := fun _ => fun
  | [d] => { results := [.lit (.bool true)], args := [d] }
  | _ => none }
def lawS1922CHolesRow : OpenClaim := { program := "ybulkamty", sum := "63ef3d379695b407255810011215d7db59839b2d856f4a43eefd990e70be77b8", func := "example.com/nomenpath/nomenpath.LawS1922CHoles", spec := "lawS1922CHoles", apart := false }
def LawS1922CHolesSaid : Prop := lawS1922CHolesRow.holds Yba.pinned (OpenSpec.ofChange lawS1922CHolesSpec)

/-- ITS FALSE NEIGHBOUR: 'it returns false'. Refute it at one input. -/
def lawS1922CHolesWrong : ChangeSpec := { name := "lawS1922CHoles", fn := fun _ => fun
  | [d] => { results := [.lit (.bool false)], args := [d] }
  | _ => none }
def LawS1922CHolesWrongFalsely : Prop := lawS1922CHolesRow.holds Yba.pinned (OpenSpec.ofChange lawS1922CHolesWrong)

end Rows
end Go.Proofs.Ybulkamty
