/-
  No cell of these rows narrows 'for every input' (looked for: loops, veiled, ifaces, maps, wideKeys, modest, calm, conditions, laid).
  DERIVED. THE GIVEN ROWS OF THIS SEAT. 5 by the template 'for every input the law returns true; each argument reads behind the call as it read before'; 0 by the template 'total and deterministic' (their statements: YbulkcyycTotals.lean).
  GIVEN WITH THE SEED: the statements are not yours to turn. If you find one false, say at which input.
  Laid BY PROGRAM, IN A SANDBOX (cutbox-rows.mjs): the forced cells as the released guide's own fill.sh prints them over the translation d328932970575895… (all of the seat's roots in one cut). By AI agents, Wed Nov 11 2026. No macro, syntax, notation, axiom, sorry.
-/
import Derived.Test.YbulkcyycChecked
import GoSem.Claim
import GoSem.ClaimJoined
import GoSem.ClaimMapViews
import Derived.JoinedTies
import Derived.KernelRfl
namespace Go.Proofs.Ybulkcyyc
/- THE CELL 'sum', in the pinned program and in every row, IS THE sha256 OF THE DUMP (.gsa) THAT YbulkcyycProg.lean LOADS. Nothing in Lean hashes anything: it is a label: what it is worth is what the hold of that sum in a sandbox is worth. -/
noncomputable def Yba.pinned : Pinned := { name := "ybulkcyyc", sum := "d328932970575895a86dabb9b168cb4f963c09827309823c02317f9c664dc673", checked := Yba.checked }
namespace Rows
def none {H : Type} : Left H := { results := [], args := [] }

/-- 'tallymark.LawS5020AFill': WHATEVER THE INPUT: true; the input reads as it did. -/
def lawS5020AFillSpec : ChangeSpec := { name := "lawS5020AFill", fn := fun _ => fun
  | [d] => { results := [.lit (.bool true)], args := [d] }
  | _ => none }
def lawS5020AFillRow : OpenClaim := { program := "ybulkcyyc", sum := "d328932970575895a86dabb9b168cb4f963c09827309823c02317f9c664dc673", func := "example.com/tallymark/tallymark.LawS5020AFill", spec := "lawS5020AFill", inPlace := ["(*internal/sync.Mutex).Lock", "internal/race.Disable", "sync/atomic.CompareAndSwapInt32", "internal/race.Enable", "internal/race.Acquire", "(*internal/sync.Mutex).lockSlow", "internal/sync.runtime_canSpin", "internal/sync.runtime_doSpin", "internal/sync.throw", "internal/sync.runtime_nanotime", "internal/sync.runtime_SemacquireMutex", "sync/atomic.AddInt32", "(*internal/sync.Mutex).Unlock", "internal/race.ReleaseMerge", "(*internal/sync.Mutex).unlockSlow", "internal/sync.fatal", "internal/sync.runtime_Semrelease", "sync/atomic.LoadUint64", "sync/atomic.AddUint64"], apart := false }
def LawS5020AFillSaid : Prop := lawS5020AFillRow.holds Yba.pinned (OpenSpec.ofChange lawS5020AFillSpec)

/-- ITS FALSE NEIGHBOUR: 'it returns false'. Refute it at one input. -/
def lawS5020AFillWrong : ChangeSpec := { name := "lawS5020AFill", fn := fun _ => fun
  | [d] => { results := [.lit (.bool false)], args := [d] }
  | _ => none }
def LawS5020AFillWrongFalsely : Prop := lawS5020AFillRow.holds Yba.pinned (OpenSpec.ofChange lawS5020AFillWrong)

/-- 'tallymark.LawS5020AScript': WHATEVER THE INPUT: true; the input reads as it did. -/
def lawS5020AScriptSpec : ChangeSpec := { name := "lawS5020AScript", fn := fun _ => fun
  | [d1, d2] => { results := [.lit (.bool true)], args := [d1, d2] }
  | _ => none }
def lawS5020AScriptRow : OpenClaim := { program := "ybulkcyyc", sum := "d328932970575895a86dabb9b168cb4f963c09827309823c02317f9c664dc673", func := "example.com/tallymark/tallymark.LawS5020AScript", spec := "lawS5020AScript", inPlace := ["(*internal/sync.Mutex).Lock", "internal/race.Disable", "sync/atomic.CompareAndSwapInt32", "internal/race.Enable", "internal/race.Acquire", "(*internal/sync.Mutex).lockSlow", "internal/sync.runtime_canSpin", "internal/sync.runtime_doSpin", "internal/sync.throw", "internal/sync.runtime_nanotime", "internal/sync.runtime_SemacquireMutex", "sync/atomic.AddInt32", "(*internal/sync.Mutex).Unlock", "internal/race.ReleaseMerge", "(*internal/sync.Mutex).unlockSlow", "internal/sync.fatal", "internal/sync.runtime_Semrelease", "sync/atomic.LoadUint64", "sync/atomic.AddUint64"], apart := false }
def LawS5020AScriptSaid : Prop := lawS5020AScriptRow.holds Yba.pinned (OpenSpec.ofChange lawS5020AScriptSpec)

/-- ITS FALSE NEIGHBOUR: 'it returns false'. Refute it at one input. -/
def lawS5020AScriptWrong : ChangeSpec := { name := "lawS5020AScript", fn := fun _ => fun
  | [d1, d2] => { results := [.lit (.bool false)], args := [d1, d2] }
  | _ => none }
def LawS5020AScriptWrongFalsely : Prop := lawS5020AScriptRow.holds Yba.pinned (OpenSpec.ofChange lawS5020AScriptWrong)

/-- 'tallymark.LawS5020BBack': WHATEVER THE INPUT: true; the input reads as it did. -/
def lawS5020BBackSpec : ChangeSpec := { name := "lawS5020BBack", fn := fun _ => fun
  | [d] => { results := [.lit (.bool true)], args := [d] }
  | _ => none }
def lawS5020BBackRow : OpenClaim := { program := "ybulkcyyc", sum := "d328932970575895a86dabb9b168cb4f963c09827309823c02317f9c664dc673", func := "example.com/tallymark/tallymark.LawS5020BBack", spec := "lawS5020BBack", apart := false }
def LawS5020BBackSaid : Prop := lawS5020BBackRow.holds Yba.pinned (OpenSpec.ofChange lawS5020BBackSpec)

/-- ITS FALSE NEIGHBOUR: 'it returns false'. Refute it at one input. -/
def lawS5020BBackWrong : ChangeSpec := { name := "lawS5020BBack", fn := fun _ => fun
  | [d] => { results := [.lit (.bool false)], args := [d] }
  | _ => none }
def LawS5020BBackWrongFalsely : Prop := lawS5020BBackRow.holds Yba.pinned (OpenSpec.ofChange lawS5020BBackWrong)

/-- 'tallymark.LawS5020CRecords': WHATEVER THE INPUT: true; the input reads as it did. -/
def lawS5020CRecordsSpec : ChangeSpec := { name := "lawS5020CRecords", fn := fun _ => fun
  | [d1, d2, d3, d4] => { results := [.lit (.bool true)], args := [d1, d2, d3, d4] }
  | _ => none }
def lawS5020CRecordsRow : OpenClaim := { program := "ybulkcyyc", sum := "d328932970575895a86dabb9b168cb4f963c09827309823c02317f9c664dc673", func := "example.com/tallymark/tallymark.LawS5020CRecords", spec := "lawS5020CRecords", inPlace := ["sync/atomic.StoreUint64", "sync/atomic.AddUint64", "sync/atomic.LoadUint64", "sync/atomic.CompareAndSwapUint64"], apart := false }
def LawS5020CRecordsSaid : Prop := lawS5020CRecordsRow.holds Yba.pinned (OpenSpec.ofChange lawS5020CRecordsSpec)

/-- ITS FALSE NEIGHBOUR: 'it returns false'. Refute it at one input. -/
def lawS5020CRecordsWrong : ChangeSpec := { name := "lawS5020CRecords", fn := fun _ => fun
  | [d1, d2, d3, d4] => { results := [.lit (.bool false)], args := [d1, d2, d3, d4] }
  | _ => none }
def LawS5020CRecordsWrongFalsely : Prop := lawS5020CRecordsRow.holds Yba.pinned (OpenSpec.ofChange lawS5020CRecordsWrong)

/-- 'tallymark.LawS5020CMixed': WHATEVER THE INPUT: true; the input reads as it did. -/
def lawS5020CMixedSpec : ChangeSpec := { name := "lawS5020CMixed", fn := fun _ => fun
  | [d1, d2, d3] => { results := [.lit (.bool true)], args := [d1, d2, d3] }
  | _ => none }
def lawS5020CMixedRow : OpenClaim := { program := "ybulkcyyc", sum := "d328932970575895a86dabb9b168cb4f963c09827309823c02317f9c664dc673", func := "example.com/tallymark/tallymark.LawS5020CMixed", spec := "lawS5020CMixed", inPlace := ["sync/atomic.StoreUint64", "sync/atomic.AddUint64", "sync/atomic.LoadUint64", "sync/atomic.CompareAndSwapUint64"], unfollowed := true, recurses := true, apart := false }
def LawS5020CMixedSaid : Prop := lawS5020CMixedRow.holds Yba.pinned (OpenSpec.ofChange lawS5020CMixedSpec)

/-- ITS FALSE NEIGHBOUR: 'it returns false'. Refute it at one input. -/
def lawS5020CMixedWrong : ChangeSpec := { name := "lawS5020CMixed", fn := fun _ => fun
  | [d1, d2, d3] => { results := [.lit (.bool false)], args := [d1, d2, d3] }
  | _ => none }
def LawS5020CMixedWrongFalsely : Prop := lawS5020CMixedRow.holds Yba.pinned (OpenSpec.ofChange lawS5020CMixedWrong)

end Rows
end Go.Proofs.Ybulkcyyc
