/-
  No cell of these rows narrows 'for every input' (looked for: loops, veiled, ifaces, maps, wideKeys, modest, calm, conditions, laid).
  DERIVED. THE GIVEN ROWS OF THIS SEAT. 3 by the template 'for every input the law returns true; each argument reads behind the call as it read before'; 0 by the template 'total and deterministic' (their statements: YbulkamooTotals.lean).
  GIVEN WITH THE SEED: the statements are not yours to turn. If you find one false, say at which input.
  Laid BY PROGRAM, IN A SANDBOX (cutbox-rows.mjs): the forced cells as the released guide's own fill.sh prints them over the translation 87e7d8ee588e062e… (all of the seat's roots in one cut). By AI agents, Wed Nov 11 2026. No macro, syntax, notation, axiom, sorry.
-/
import Derived.Test.YbulkamooChecked
import GoSem.Claim
import GoSem.ClaimJoined
import GoSem.ClaimMapViews
import Derived.JoinedTies
import Derived.KernelRfl
namespace Go.Proofs.Ybulkamoo
/- THE CELL 'sum', in the pinned program and in every row, IS THE sha256 OF THE DUMP (.gsa) THAT YbulkamooProg.lean LOADS. Nothing in Lean hashes anything: it is a label: what it is worth is what the hold of that sum in a sandbox is worth. -/
noncomputable def Yba.pinned : Pinned := { name := "ybulkamoo", sum := "87e7d8ee588e062e2e4ed68855298ea96dab6eccd2a44a9c94af07688c2b8978", checked := Yba.checked }
namespace Rows
def none {H : Type} : Left H := { results := [], args := [] }

/-- 'keystem.LawS1912AModel': WHATEVER THE INPUT: true; the input reads as it did. -/
def lawS1912AModelSpec : ChangeSpec := { name := "lawS1912AModel", fn := fun _ => fun
  | [d1, d2] => { results := [.lit (.bool true)], args := [d1, d2] }
  | _ => none }
def lawS1912AModelRow : OpenClaim := { program := "ybulkamoo", sum := "87e7d8ee588e062e2e4ed68855298ea96dab6eccd2a44a9c94af07688c2b8978", func := "example.com/keystem/keystem.LawS1912AModel", spec := "lawS1912AModel", inPlace := ["(*internal/sync.Mutex).Lock", "internal/race.Disable", "sync/atomic.CompareAndSwapInt32", "internal/race.Enable", "internal/race.Acquire", "(*internal/sync.Mutex).lockSlow", "internal/sync.runtime_canSpin", "internal/sync.runtime_doSpin", "internal/sync.throw", "internal/sync.runtime_nanotime", "internal/sync.runtime_SemacquireMutex", "sync/atomic.AddInt32", "(*internal/sync.Mutex).Unlock", "internal/race.ReleaseMerge", "(*internal/sync.Mutex).unlockSlow", "internal/sync.fatal", "internal/sync.runtime_Semrelease"], apart := false }
def LawS1912AModelSaid : Prop := lawS1912AModelRow.holds Yba.pinned (OpenSpec.ofChange lawS1912AModelSpec)

/-- ITS FALSE NEIGHBOUR: 'it returns false'. Refute it at one input. -/
def lawS1912AModelWrong : ChangeSpec := { name := "lawS1912AModel", fn := fun _ => fun
  | [d1, d2] => { results := [.lit (.bool false)], args := [d1, d2] }
  | _ => none }
def LawS1912AModelWrongFalsely : Prop := lawS1912AModelRow.holds Yba.pinned (OpenSpec.ofChange lawS1912AModelWrong)

/-- 'keystem.LawS1912APutGet': WHATEVER THE INPUT: true; the input reads as it did. -/
def lawS1912APutGetSpec : ChangeSpec := { name := "lawS1912APutGet", fn := fun _ => fun
  | [d1, d2, d3] => { results := [.lit (.bool true)], args := [d1, d2, d3] }
  | _ => none }
def lawS1912APutGetRow : OpenClaim := { program := "ybulkamoo", sum := "87e7d8ee588e062e2e4ed68855298ea96dab6eccd2a44a9c94af07688c2b8978", func := "example.com/keystem/keystem.LawS1912APutGet", spec := "lawS1912APutGet", inPlace := ["(*internal/sync.Mutex).Lock", "internal/race.Disable", "sync/atomic.CompareAndSwapInt32", "internal/race.Enable", "internal/race.Acquire", "(*internal/sync.Mutex).lockSlow", "internal/sync.runtime_canSpin", "internal/sync.runtime_doSpin", "internal/sync.throw", "internal/sync.runtime_nanotime", "internal/sync.runtime_SemacquireMutex", "sync/atomic.AddInt32", "(*internal/sync.Mutex).Unlock", "internal/race.ReleaseMerge", "(*internal/sync.Mutex).unlockSlow", "internal/sync.fatal", "internal/sync.runtime_Semrelease"], apart := false }
def LawS1912APutGetSaid : Prop := lawS1912APutGetRow.holds Yba.pinned (OpenSpec.ofChange lawS1912APutGetSpec)

/-- ITS FALSE NEIGHBOUR: 'it returns false'. Refute it at one input. -/
def lawS1912APutGetWrong : ChangeSpec := { name := "lawS1912APutGet", fn := fun _ => fun
  | [d1, d2, d3] => { results := [.lit (.bool false)], args := [d1, d2, d3] }
  | _ => none }
def LawS1912APutGetWrongFalsely : Prop := lawS1912APutGetRow.holds Yba.pinned (OpenSpec.ofChange lawS1912APutGetWrong)

/-- 'keystem.LawS1912CEntryScript': WHATEVER THE INPUT: true; the input reads as it did. -/
def lawS1912CEntryScriptSpec : ChangeSpec := { name := "lawS1912CEntryScript", fn := fun _ => fun
  | [d] => { results := [.lit (.bool true)], args := [d] }
  | _ => none }
def lawS1912CEntryScriptRow : OpenClaim := { program := "ybulkamoo", sum := "87e7d8ee588e062e2e4ed68855298ea96dab6eccd2a44a9c94af07688c2b8978", func := "example.com/keystem/keystem.LawS1912CEntryScript", spec := "lawS1912CEntryScript", apart := false }
def LawS1912CEntryScriptSaid : Prop := lawS1912CEntryScriptRow.holds Yba.pinned (OpenSpec.ofChange lawS1912CEntryScriptSpec)

/-- ITS FALSE NEIGHBOUR: 'it returns false'. Refute it at one input. -/
def lawS1912CEntryScriptWrong : ChangeSpec := { name := "lawS1912CEntryScript", fn := fun _ => fun
  | [d] => { results := [.lit (.bool false)], args := [d] }
  | _ => none }
def LawS1912CEntryScriptWrongFalsely : Prop := lawS1912CEntryScriptRow.holds Yba.pinned (OpenSpec.ofChange lawS1912CEntryScriptWrong)

end Rows
end Go.Proofs.Ybulkamoo
