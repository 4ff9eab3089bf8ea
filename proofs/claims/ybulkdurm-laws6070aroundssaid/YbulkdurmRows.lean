/-
  No cell of these rows narrows 'for every input' (looked for: loops, veiled, ifaces, maps, wideKeys, modest, calm, conditions, laid).
  DERIVED. THE GIVEN ROWS OF THIS SEAT. 2 by the template 'for every input the law returns true; each argument reads behind the call as it read before'; 0 by the template 'total and deterministic' (their statements: YbulkdurmTotals.lean).
  GIVEN WITH THE SEED: the statements are not yours to turn. If you find one false, say at which input.
  Laid BY PROGRAM, IN A SANDBOX (cutbox-rows.mjs): the forced cells as the released guide's own fill.sh prints them over the translation c577a314f49d6e43… (all of the seat's roots in one cut). By AI agents, Wed Nov 11 2026. No macro, syntax, notation, axiom, sorry.
-/
import Derived.Test.YbulkdurmChecked
import GoSem.Claim
import GoSem.ClaimJoined
import GoSem.ClaimMapViews
import Derived.JoinedTies
import Derived.KernelRfl
namespace Go.Proofs.Ybulkdurm
/- THE CELL 'sum', in the pinned program and in every row, IS THE sha256 OF THE DUMP (.gsa) THAT YbulkdurmProg.lean LOADS. Nothing in Lean hashes anything: it is a label: what it is worth is what the hold of that sum in a sandbox is worth. -/
noncomputable def Yba.pinned : Pinned := { name := "ybulkdurm", sum := "c577a314f49d6e43c7fe93e460d6b9c2e1f2afc40f337564f18834dbc9dd29e7", checked := Yba.checked }
namespace Rows
def none {H : Type} : Left H := { results := [], args := [] }

/-- 'storage.LawS6070AWhole': WHATEVER THE INPUT: true; the input reads as it did. -/
def lawS6070AWholeSpec : ChangeSpec := { name := "lawS6070AWhole", fn := fun _ => fun
  | [d1, d2, d3, d4, d5, d6] => { results := [.lit (.bool true)], args := [d1, d2, d3, d4, d5, d6] }
  | _ => none }
def lawS6070AWholeRow : OpenClaim := { program := "ybulkdurm", sum := "c577a314f49d6e43c7fe93e460d6b9c2e1f2afc40f337564f18834dbc9dd29e7", func := "example.com/keyhop/keyhop/storage.LawS6070AWhole", spec := "lawS6070AWhole", inPlace := ["(*internal/sync.Mutex).Lock", "internal/race.Disable", "sync/atomic.CompareAndSwapInt32", "internal/race.Enable", "internal/race.Acquire", "(*internal/sync.Mutex).lockSlow", "internal/sync.runtime_canSpin", "internal/sync.runtime_doSpin", "internal/sync.throw", "internal/sync.runtime_nanotime", "internal/sync.runtime_SemacquireMutex", "sync/atomic.AddInt32", "(*internal/sync.Mutex).Unlock", "internal/race.ReleaseMerge", "(*internal/sync.Mutex).unlockSlow", "internal/sync.fatal", "internal/sync.runtime_Semrelease"], plainKeys := false, apart := false }
def LawS6070AWholeSaid : Prop := lawS6070AWholeRow.holds Yba.pinned (OpenSpec.ofChange lawS6070AWholeSpec)

/-- ITS FALSE NEIGHBOUR: 'it returns false'. Refute it at one input. -/
def lawS6070AWholeWrong : ChangeSpec := { name := "lawS6070AWhole", fn := fun _ => fun
  | [d1, d2, d3, d4, d5, d6] => { results := [.lit (.bool false)], args := [d1, d2, d3, d4, d5, d6] }
  | _ => none }
def LawS6070AWholeWrongFalsely : Prop := lawS6070AWholeRow.holds Yba.pinned (OpenSpec.ofChange lawS6070AWholeWrong)

/-- 'storage.LawS6070ARounds': WHATEVER THE INPUT: true; the input reads as it did. -/
def lawS6070ARoundsSpec : ChangeSpec := { name := "lawS6070ARounds", fn := fun _ => fun
  | [d] => { results := [.lit (.bool true)], args := [d] }
  | _ => none }
def lawS6070ARoundsRow : OpenClaim := { program := "ybulkdurm", sum := "c577a314f49d6e43c7fe93e460d6b9c2e1f2afc40f337564f18834dbc9dd29e7", func := "example.com/keyhop/keyhop/storage.LawS6070ARounds", spec := "lawS6070ARounds", inPlace := ["(*internal/sync.Mutex).Lock", "internal/race.Disable", "sync/atomic.CompareAndSwapInt32", "internal/race.Enable", "internal/race.Acquire", "(*internal/sync.Mutex).lockSlow", "internal/sync.runtime_canSpin", "internal/sync.runtime_doSpin", "internal/sync.throw", "internal/sync.runtime_nanotime", "internal/sync.runtime_SemacquireMutex", "sync/atomic.AddInt32", "(*internal/sync.Mutex).Unlock", "internal/race.ReleaseMerge", "(*internal/sync.Mutex).unlockSlow", "internal/sync.fatal", "internal/sync.runtime_Semrelease"], plainKeys := false, apart := false }
def LawS6070ARoundsSaid : Prop := lawS6070ARoundsRow.holds Yba.pinned (OpenSpec.ofChange lawS6070ARoundsSpec)

/-- ITS FALSE NEIGHBOUR: 'it returns false'. Refute it at one input. -/
def lawS6070ARoundsWrong : ChangeSpec := { name := "lawS6070ARounds", fn := fun _ => fun
  | [d] => { results := [.lit (.bool false)], args := [d] }
  | _ => none }
def LawS6070ARoundsWrongFalsely : Prop := lawS6070ARoundsRow.holds Yba.pinned (OpenSpec.ofChange lawS6070ARoundsWrong)

end Rows
end Go.Proofs.Ybulkdurm
