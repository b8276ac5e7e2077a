/-
  No cell of these rows narrows 'for every input' (looked for: loops, veiled, ifaces, maps, wideKeys, modest, calm, conditions, laid).
  DERIVED. THE GIVEN ROWS OF THIS SEAT. 5 by the template 'for every input the law returns true; each argument reads behind the call as it read before'; 0 by the template 'total and deterministic' (their statements: YbulkaiquTotals.lean).
  GIVEN WITH THE SEED: the statements are not yours to turn. If you find one false, say at which input.
  Laid BY PROGRAM, IN A SANDBOX (cutbox-rows.mjs): the forced cells as the released guide's own fill.sh prints them over the translation a8efc2ae3d297e34… (all of the seat's roots in one cut). By AI agents, Wed Nov 11 2026. No macro, syntax, notation, axiom, sorry.
-/
import Derived.Test.YbulkaiquChecked
import GoSem.Claim
import GoSem.ClaimJoined
import GoSem.ClaimMapViews
import Derived.JoinedTies
import Derived.KernelRfl
namespace Go.Proofs.Ybulkaiqu
/- THE CELL 'sum', in the pinned program and in every row, IS THE sha256 OF THE DUMP (.gsa) THAT YbulkaiquProg.lean LOADS. Nothing in Lean hashes anything: it is a label: what it is worth is what the hold of that sum in a sandbox is worth. -/
noncomputable def Yba.pinned : Pinned := { name := "ybulkaiqu", sum := "a8efc2ae3d297e347b252cb5dd8e4cedfa4dbdf06cad68a2f1e497a2e2582fb6", checked := Yba.checked }
namespace Rows
def none {H : Type} : Left H := { results := [], args := [] }

/-- 'lean-scheduler.LawS1723ARest': WHATEVER THE INPUT: true; the input reads as it did. -/
def lawS1723ARestSpec : ChangeSpec := { name := "lawS1723ARest", fn := fun _ => fun
  | [d1, d2, d3, d4, d5, d6] => { results := [.lit (.bool true)], args := [d1, d2, d3, d4, d5, d6] }
  | _ => none }
def lawS1723ARestRow : OpenClaim := { program := "ybulkaiqu", sum := "a8efc2ae3d297e347b252cb5dd8e4cedfa4dbdf06cad68a2f1e497a2e2582fb6", func := "example.com/lean-scheduler/lean-scheduler.LawS1723ARest", spec := "lawS1723ARest", inPlace := ["(*internal/sync.Mutex).Lock", "internal/race.Disable", "sync/atomic.CompareAndSwapInt32", "internal/race.Enable", "internal/race.Acquire", "(*internal/sync.Mutex).lockSlow", "internal/sync.runtime_canSpin", "internal/sync.runtime_doSpin", "internal/sync.throw", "internal/sync.runtime_nanotime", "internal/sync.runtime_SemacquireMutex", "sync/atomic.AddInt32", "(*internal/sync.Mutex).Unlock", "internal/race.ReleaseMerge", "(*internal/sync.Mutex).unlockSlow", "internal/sync.fatal", "internal/sync.runtime_Semrelease", "(*internal/sync.Mutex).TryLock"], apart := false }
def LawS1723ARestSaid : Prop := lawS1723ARestRow.holds Yba.pinned (OpenSpec.ofChange lawS1723ARestSpec)

/-- ITS FALSE NEIGHBOUR: 'it returns false'. Refute it at one input. -/
def lawS1723ARestWrong : ChangeSpec := { name := "lawS1723ARest", fn := fun _ => fun
  | [d1, d2, d3, d4, d5, d6] => { results := [.lit (.bool false)], args := [d1, d2, d3, d4, d5, d6] }
  | _ => none }
def LawS1723ARestWrongFalsely : Prop := lawS1723ARestRow.holds Yba.pinned (OpenSpec.ofChange lawS1723ARestWrong)

/-- 'lean-scheduler.LawS1723BSpillExact': WHATEVER THE INPUT: true; the input reads as it did. -/
def lawS1723BSpillExactSpec : ChangeSpec := { name := "lawS1723BSpillExact", fn := fun _ => fun
  | [d1, d2, d3] => { results := [.lit (.bool true)], args := [d1, d2, d3] }
  | _ => none }
def lawS1723BSpillExactRow : OpenClaim := { program := "ybulkaiqu", sum := "a8efc2ae3d297e347b252cb5dd8e4cedfa4dbdf06cad68a2f1e497a2e2582fb6", func := "example.com/lean-scheduler/lean-scheduler.LawS1723BSpillExact", spec := "lawS1723BSpillExact", inPlace := ["sync/atomic.StoreUint32", "sync/atomic.LoadUint32", "sync/atomic.CompareAndSwapUint32"], apart := false }
def LawS1723BSpillExactSaid : Prop := lawS1723BSpillExactRow.holds Yba.pinned (OpenSpec.ofChange lawS1723BSpillExactSpec)

/-- ITS FALSE NEIGHBOUR: 'it returns false'. Refute it at one input. -/
def lawS1723BSpillExactWrong : ChangeSpec := { name := "lawS1723BSpillExact", fn := fun _ => fun
  | [d1, d2, d3] => { results := [.lit (.bool false)], args := [d1, d2, d3] }
  | _ => none }
def LawS1723BSpillExactWrongFalsely : Prop := lawS1723BSpillExactRow.holds Yba.pinned (OpenSpec.ofChange lawS1723BSpillExactWrong)

/-- 'lean-scheduler.LawS1723BSpillAfterPush': WHATEVER THE INPUT: true; the input reads as it did. -/
def lawS1723BSpillAfterPushSpec : ChangeSpec := { name := "lawS1723BSpillAfterPush", fn := fun _ => fun
  | [d] => { results := [.lit (.bool true)], args := [d] }
  | _ => none }
def lawS1723BSpillAfterPushRow : OpenClaim := { program := "ybulkaiqu", sum := "a8efc2ae3d297e347b252cb5dd8e4cedfa4dbdf06cad68a2f1e497a2e2582fb6", func := "example.com/lean-scheduler/lean-scheduler.LawS1723BSpillAfterPush", spec := "lawS1723BSpillAfterPush", inPlace := ["sync/atomic.StoreUint32", "sync/atomic.LoadUint32", "sync/atomic.StorePointer", "sync/atomic.CompareAndSwapUint32", "sync/atomic.LoadPointer"], apart := false }
def LawS1723BSpillAfterPushSaid : Prop := lawS1723BSpillAfterPushRow.holds Yba.pinned (OpenSpec.ofChange lawS1723BSpillAfterPushSpec)

/-- ITS FALSE NEIGHBOUR: 'it returns false'. Refute it at one input. -/
def lawS1723BSpillAfterPushWrong : ChangeSpec := { name := "lawS1723BSpillAfterPush", fn := fun _ => fun
  | [d] => { results := [.lit (.bool false)], args := [d] }
  | _ => none }
def LawS1723BSpillAfterPushWrongFalsely : Prop := lawS1723BSpillAfterPushRow.holds Yba.pinned (OpenSpec.ofChange lawS1723BSpillAfterPushWrong)

/-- 'lean-scheduler.LawS1723CFresh': WHATEVER THE INPUT: true; the input reads as it did. -/
def lawS1723CFreshSpec : ChangeSpec := { name := "lawS1723CFresh", fn := fun _ => fun
  | [d] => { results := [.lit (.bool true)], args := [d] }
  | _ => none }
def lawS1723CFreshRow : OpenClaim := { program := "ybulkaiqu", sum := "a8efc2ae3d297e347b252cb5dd8e4cedfa4dbdf06cad68a2f1e497a2e2582fb6", func := "example.com/lean-scheduler/lean-scheduler.LawS1723CFresh", spec := "lawS1723CFresh", inPlace := ["sync.NewCond"], apart := false }
def LawS1723CFreshSaid : Prop := lawS1723CFreshRow.holds Yba.pinned (OpenSpec.ofChange lawS1723CFreshSpec)

/-- ITS FALSE NEIGHBOUR: 'it returns false'. Refute it at one input. -/
def lawS1723CFreshWrong : ChangeSpec := { name := "lawS1723CFresh", fn := fun _ => fun
  | [d] => { results := [.lit (.bool false)], args := [d] }
  | _ => none }
def LawS1723CFreshWrongFalsely : Prop := lawS1723CFreshRow.holds Yba.pinned (OpenSpec.ofChange lawS1723CFreshWrong)

/-- 'lean-scheduler.LawS1723CDistinct': WHATEVER THE INPUT: true; the input reads as it did. -/
def lawS1723CDistinctSpec : ChangeSpec := { name := "lawS1723CDistinct", fn := fun _ => fun
  | [d] => { results := [.lit (.bool true)], args := [d] }
  | _ => none }
def lawS1723CDistinctRow : OpenClaim := { program := "ybulkaiqu", sum := "a8efc2ae3d297e347b252cb5dd8e4cedfa4dbdf06cad68a2f1e497a2e2582fb6", func := "example.com/lean-scheduler/lean-scheduler.LawS1723CDistinct", spec := "lawS1723CDistinct", inPlace := ["sync.NewCond"], apart := false }
def LawS1723CDistinctSaid : Prop := lawS1723CDistinctRow.holds Yba.pinned (OpenSpec.ofChange lawS1723CDistinctSpec)

/-- ITS FALSE NEIGHBOUR: 'it returns false'. Refute it at one input. -/
def lawS1723CDistinctWrong : ChangeSpec := { name := "lawS1723CDistinct", fn := fun _ => fun
  | [d] => { results := [.lit (.bool false)], args := [d] }
  | _ => none }
def LawS1723CDistinctWrongFalsely : Prop := lawS1723CDistinctRow.holds Yba.pinned (OpenSpec.ofChange lawS1723CDistinctWrong)

end Rows
end Go.Proofs.Ybulkaiqu
