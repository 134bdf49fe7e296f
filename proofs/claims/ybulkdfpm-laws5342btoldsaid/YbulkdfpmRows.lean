/-
  No cell of these rows narrows 'for every input' (looked for: loops, veiled, ifaces, maps, wideKeys, modest, calm, conditions, laid).
  DERIVED. THE GIVEN ROWS OF THIS SEAT. 4 by the template 'for every input the law returns true; each argument reads behind the call as it read before'; 0 by the template 'total and deterministic' (their statements: YbulkdfpmTotals.lean).
  GIVEN WITH THE SEED: the statements are not yours to turn. If you find one false, say at which input.
  Laid BY PROGRAM, IN A SANDBOX (cutbox-rows.mjs): the forced cells as the released guide's own fill.sh prints them over the translation 9acf749ec74e6d20… (all of the seat's roots in one cut). By AI agents, Wed Nov 11 2026. No macro, syntax, notation, axiom, sorry.
-/
import Derived.Test.YbulkdfpmChecked
import GoSem.Claim
import GoSem.ClaimJoined
import GoSem.ClaimMapViews
import Derived.JoinedTies
import Derived.KernelRfl
namespace Go.Proofs.Ybulkdfpm
/- THE CELL 'sum', in the pinned program and in every row, IS THE sha256 OF THE DUMP (.gsa) THAT YbulkdfpmProg.lean LOADS. Nothing in Lean hashes anything: it is a label: what it is worth is what the hold of that sum in a sandbox is worth. -/
noncomputable def Yba.pinned : Pinned := { name := "ybulkdfpm", sum := "9acf749ec74e6d20c70cb1b3495401ed0f3bc94a745f6d787fd96f8b50413d40", checked := Yba.checked }
namespace Rows
def none {H : Type} : Left H := { results := [], args := [] }

/-- 'config.LawS5342BAppends': WHATEVER THE INPUT: true; the input reads as it did. -/
def lawS5342BAppendsSpec : ChangeSpec := { name := "lawS5342BAppends", fn := fun _ => fun
  | [d1, d2] => { results := [.lit (.bool true)], args := [d1, d2] }
  | _ => none }
def lawS5342BAppendsRow : OpenClaim := { program := "ybulkdfpm", sum := "9acf749ec74e6d20c70cb1b3495401ed0f3bc94a745f6d787fd96f8b50413d40", func := "example.com/sluice/sluice/pkg/config.LawS5342BAppends", spec := "lawS5342BAppends", inPlace := ["(*sync.RWMutex).Lock", "internal/race.Read", "internal/race.Disable", "(*internal/sync.Mutex).Lock", "sync/atomic.CompareAndSwapInt32", "internal/race.Enable", "internal/race.Acquire", "(*internal/sync.Mutex).lockSlow", "internal/sync.runtime_canSpin", "internal/sync.runtime_doSpin", "internal/sync.throw", "internal/sync.runtime_nanotime", "internal/sync.runtime_SemacquireMutex", "sync/atomic.AddInt32", "sync.runtime_SemacquireRWMutex", "(*sync.RWMutex).Unlock", "internal/race.Release", "internal/race.ReleaseMerge", "sync.fatal", "sync.runtime_Semrelease", "(*internal/sync.Mutex).Unlock", "(*internal/sync.Mutex).unlockSlow", "internal/sync.fatal", "internal/sync.runtime_Semrelease"], plainKeys := false, apart := false }
def LawS5342BAppendsSaid : Prop := lawS5342BAppendsRow.holds Yba.pinned (OpenSpec.ofChange lawS5342BAppendsSpec)

/-- ITS FALSE NEIGHBOUR: 'it returns false'. Refute it at one input. -/
def lawS5342BAppendsWrong : ChangeSpec := { name := "lawS5342BAppends", fn := fun _ => fun
  | [d1, d2] => { results := [.lit (.bool false)], args := [d1, d2] }
  | _ => none }
def LawS5342BAppendsWrongFalsely : Prop := lawS5342BAppendsRow.holds Yba.pinned (OpenSpec.ofChange lawS5342BAppendsWrong)

/-- 'config.LawS5342BTold': WHATEVER THE INPUT: true; the input reads as it did. -/
def lawS5342BToldSpec : ChangeSpec := { name := "lawS5342BTold", fn := fun _ => fun
  | [d1, d2, d3] => { results := [.lit (.bool true)], args := [d1, d2, d3] }
  | _ => none }
def lawS5342BToldRow : OpenClaim := { program := "ybulkdfpm", sum := "9acf749ec74e6d20c70cb1b3495401ed0f3bc94a745f6d787fd96f8b50413d40", func := "example.com/sluice/sluice/pkg/config.LawS5342BTold", spec := "lawS5342BTold", inPlace := ["(*sync.RWMutex).Lock", "internal/race.Read", "internal/race.Disable", "(*internal/sync.Mutex).Lock", "sync/atomic.CompareAndSwapInt32", "internal/race.Enable", "internal/race.Acquire", "(*internal/sync.Mutex).lockSlow", "internal/sync.runtime_canSpin", "internal/sync.runtime_doSpin", "internal/sync.throw", "internal/sync.runtime_nanotime", "internal/sync.runtime_SemacquireMutex", "sync/atomic.AddInt32", "sync.runtime_SemacquireRWMutex", "(*sync.RWMutex).Unlock", "internal/race.Release", "internal/race.ReleaseMerge", "sync.fatal", "sync.runtime_Semrelease", "(*internal/sync.Mutex).Unlock", "(*internal/sync.Mutex).unlockSlow", "internal/sync.fatal", "internal/sync.runtime_Semrelease"], plainKeys := false, apart := false }
def LawS5342BToldSaid : Prop := lawS5342BToldRow.holds Yba.pinned (OpenSpec.ofChange lawS5342BToldSpec)

/-- ITS FALSE NEIGHBOUR: 'it returns false'. Refute it at one input. -/
def lawS5342BToldWrong : ChangeSpec := { name := "lawS5342BTold", fn := fun _ => fun
  | [d1, d2, d3] => { results := [.lit (.bool false)], args := [d1, d2, d3] }
  | _ => none }
def LawS5342BToldWrongFalsely : Prop := lawS5342BToldRow.holds Yba.pinned (OpenSpec.ofChange lawS5342BToldWrong)

/-- 'tcl.LawS5342CScript': WHATEVER THE INPUT: true; the input reads as it did. -/
def lawS5342CScriptSpec : ChangeSpec := { name := "lawS5342CScript", fn := fun _ => fun
  | [d] => { results := [.lit (.bool true)], args := [d] }
  | _ => none }
def lawS5342CScriptRow : OpenClaim := { program := "ybulkdfpm", sum := "9acf749ec74e6d20c70cb1b3495401ed0f3bc94a745f6d787fd96f8b50413d40", func := "example.com/sluice/sluice/pkg/tcl.LawS5342CScript", spec := "lawS5342CScript", plainKeys := false, apart := false }
def LawS5342CScriptSaid : Prop := lawS5342CScriptRow.holds Yba.pinned (OpenSpec.ofChange lawS5342CScriptSpec)

/-- ITS FALSE NEIGHBOUR: 'it returns false'. Refute it at one input. -/
def lawS5342CScriptWrong : ChangeSpec := { name := "lawS5342CScript", fn := fun _ => fun
  | [d] => { results := [.lit (.bool false)], args := [d] }
  | _ => none }
def LawS5342CScriptWrongFalsely : Prop := lawS5342CScriptRow.holds Yba.pinned (OpenSpec.ofChange lawS5342CScriptWrong)

/-- 'tcl.LawS5342CFull': WHATEVER THE INPUT: true; the input reads as it did. -/
def lawS5342CFullSpec : ChangeSpec := { name := "lawS5342CFull", fn := fun _ => fun
  | [d] => { results := [.lit (.bool true)], args := [d] }
  | _ => none }
def lawS5342CFullRow : OpenClaim := { program := "ybulkdfpm", sum := "9acf749ec74e6d20c70cb1b3495401ed0f3bc94a745f6d787fd96f8b50413d40", func := "example.com/sluice/sluice/pkg/tcl.LawS5342CFull", spec := "lawS5342CFull", plainKeys := false, apart := false }
def LawS5342CFullSaid : Prop := lawS5342CFullRow.holds Yba.pinned (OpenSpec.ofChange lawS5342CFullSpec)

/-- ITS FALSE NEIGHBOUR: 'it returns false'. Refute it at one input. -/
def lawS5342CFullWrong : ChangeSpec := { name := "lawS5342CFull", fn := fun _ => fun
  | [d] => { results := [.lit (.bool false)], args := [d] }
  | _ => none }
def LawS5342CFullWrongFalsely : Prop := lawS5342CFullRow.holds Yba.pinned (OpenSpec.ofChange lawS5342CFullWrong)

end Rows
end Go.Proofs.Ybulkdfpm
