/-
  No cell of these rows narrows 'for every input' (looked for: loops, veiled, ifaces, maps, wideKeys, modest, calm, conditions, laid).
  DERIVED. THE GIVEN ROWS OF THIS SEAT. 2 by the template 'for every input the law returns true; each argument reads behind the call as it read before'; 0 by the template 'total and deterministic' (their statements: YbulkamqsTotals.lean).
  GIVEN WITH THE SEED: the statements are not yours to turn. If you find one false, say at which input.
  Laid BY PROGRAM, IN A SANDBOX (cutbox-rows.mjs): the forced cells as the released guide's own fill.sh prints them over the translation 2e2b7b9a342fca51… (all of the seat's roots in one cut). By AI agents, Wed Nov 11 2026. No macro, syntax, notation, axiom, sorry.
-/
import Derived.Test.YbulkamqsChecked
import GoSem.Claim
import GoSem.ClaimJoined
import GoSem.ClaimMapViews
import Derived.JoinedTies
import Derived.KernelRfl
namespace Go.Proofs.Ybulkamqs
/- THE CELL 'sum', in the pinned program and in every row, IS THE sha256 OF THE DUMP (.gsa) THAT YbulkamqsProg.lean LOADS. Nothing in Lean hashes anything: it is a label: what it is worth is what the hold of that sum in a sandbox is worth. -/
noncomputable def Yba.pinned : Pinned := { name := "ybulkamqs", sum := "2e2b7b9a342fca513543c38390f87a656db0328a85e2165d1793aba5e120a204", checked := Yba.checked }
namespace Rows
def none {H : Type} : Left H := { results := [], args := [] }

/-- 'mesh.LawS1916AInsertSorted': WHATEVER THE INPUT: true; the input reads as it did. -/
def lawS1916AInsertSortedSpec : ChangeSpec := { name := "lawS1916AInsertSorted", fn := fun _ => fun
  | [d1, d2, d3, d4, d5, d6, d7] => { results := [.lit (.bool true)], args := [d1, d2, d3, d4, d5, d6, d7] }
  | _ => none }
def lawS1916AInsertSortedRow : OpenClaim := { program := "ybulkamqs", sum := "2e2b7b9a342fca513543c38390f87a656db0328a85e2165d1793aba5e120a204", func := "example.com/torusweave/torusweave/mesh.LawS1916AInsertSorted", spec := "lawS1916AInsertSorted", recurses := true, apart := false }
def LawS1916AInsertSortedSaid : Prop := lawS1916AInsertSortedRow.holds Yba.pinned (OpenSpec.ofChange lawS1916AInsertSortedSpec)

/-- ITS FALSE NEIGHBOUR: 'it returns false'. Refute it at one input. -/
def lawS1916AInsertSortedWrong : ChangeSpec := { name := "lawS1916AInsertSorted", fn := fun _ => fun
  | [d1, d2, d3, d4, d5, d6, d7] => { results := [.lit (.bool false)], args := [d1, d2, d3, d4, d5, d6, d7] }
  | _ => none }
def LawS1916AInsertSortedWrongFalsely : Prop := lawS1916AInsertSortedRow.holds Yba.pinned (OpenSpec.ofChange lawS1916AInsertSortedWrong)

/-- 'mesh.LawS1916AInsertAnyOrder': WHATEVER THE INPUT: true; the input reads as it did. -/
def lawS1916AInsertAnyOrderSpec : ChangeSpec := { name := "lawS1916AInsertAnyOrder", fn := fun _ => fun
  | [d1, d2, d3, d4] => { results := [.lit (.bool true)], args := [d1, d2, d3, d4] }
  | _ => none }
def lawS1916AInsertAnyOrderRow : OpenClaim := { program := "ybulkamqs", sum := "2e2b7b9a342fca513543c38390f87a656db0328a85e2165d1793aba5e120a204", func := "example.com/torusweave/torusweave/mesh.LawS1916AInsertAnyOrder", spec := "lawS1916AInsertAnyOrder", recurses := true, apart := false }
def LawS1916AInsertAnyOrderSaid : Prop := lawS1916AInsertAnyOrderRow.holds Yba.pinned (OpenSpec.ofChange lawS1916AInsertAnyOrderSpec)

/-- ITS FALSE NEIGHBOUR: 'it returns false'. Refute it at one input. -/
def lawS1916AInsertAnyOrderWrong : ChangeSpec := { name := "lawS1916AInsertAnyOrder", fn := fun _ => fun
  | [d1, d2, d3, d4] => { results := [.lit (.bool false)], args := [d1, d2, d3, d4] }
  | _ => none }
def LawS1916AInsertAnyOrderWrongFalsely : Prop := lawS1916AInsertAnyOrderRow.holds Yba.pinned (OpenSpec.ofChange lawS1916AInsertAnyOrderWrong)

end Rows
end Go.Proofs.Ybulkamqs
