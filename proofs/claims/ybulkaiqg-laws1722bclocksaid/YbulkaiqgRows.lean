/-
  No cell of these rows narrows 'for every input' (looked for: loops, veiled, ifaces, maps, wideKeys, modest, calm, conditions, laid).
  DERIVED. THE GIVEN ROWS OF THIS SEAT. 4 by the template 'for every input the law returns true; each argument reads behind the call as it read before'; 0 by the template 'total and deterministic' (their statements: YbulkaiqgTotals.lean).
  GIVEN WITH THE SEED: the statements are not yours to turn. If you find one false, say at which input.
  Laid BY PROGRAM, IN A SANDBOX (cutbox-rows.mjs): the forced cells as the released guide's own fill.sh prints them over the translation 4a267dd455cc3e01… (all of the seat's roots in one cut). By AI agents, Wed Nov 11 2026. No macro, syntax, notation, axiom, sorry.
-/
import Derived.Test.YbulkaiqgChecked
import GoSem.Claim
import GoSem.ClaimJoined
import GoSem.ClaimMapViews
import Derived.JoinedTies
import Derived.KernelRfl
namespace Go.Proofs.Ybulkaiqg
/- THE CELL 'sum', in the pinned program and in every row, IS THE sha256 OF THE DUMP (.gsa) THAT YbulkaiqgProg.lean LOADS. Nothing in Lean hashes anything: it is a label: what it is worth is what the hold of that sum in a sandbox is worth. -/
noncomputable def Yba.pinned : Pinned := { name := "ybulkaiqg", sum := "4a267dd455cc3e01f7f03318e7975c9ee90befeb211a1e46ee17073929506b96", checked := Yba.checked }
namespace Rows
def none {H : Type} : Left H := { results := [], args := [] }

/-- 'spindrift.LawS1722AFirstAtLeast': WHATEVER THE INPUT: true; the input reads as it did. -/
def lawS1722AFirstAtLeastSpec : ChangeSpec := { name := "lawS1722AFirstAtLeast", fn := fun _ => fun
  | [d1, d2, d3, d4, d5, d6] => { results := [.lit (.bool true)], args := [d1, d2, d3, d4, d5, d6] }
  | _ => none }
def lawS1722AFirstAtLeastRow : OpenClaim := { program := "ybulkaiqg", sum := "4a267dd455cc3e01f7f03318e7975c9ee90befeb211a1e46ee17073929506b96", func := "example.com/spindrift/spindrift.LawS1722AFirstAtLeast", spec := "lawS1722AFirstAtLeast", plainKeys := false, apart := false }
def LawS1722AFirstAtLeastSaid : Prop := lawS1722AFirstAtLeastRow.holds Yba.pinned (OpenSpec.ofChange lawS1722AFirstAtLeastSpec)

/-- ITS FALSE NEIGHBOUR: 'it returns false'. Refute it at one input. -/
def lawS1722AFirstAtLeastWrong : ChangeSpec := { name := "lawS1722AFirstAtLeast", fn := fun _ => fun
  | [d1, d2, d3, d4, d5, d6] => { results := [.lit (.bool false)], args := [d1, d2, d3, d4, d5, d6] }
  | _ => none }
def LawS1722AFirstAtLeastWrongFalsely : Prop := lawS1722AFirstAtLeastRow.holds Yba.pinned (OpenSpec.ofChange lawS1722AFirstAtLeastWrong)

/-- 'spindrift.LawS1722AAgreesBinarySearch': WHATEVER THE INPUT: true; the input reads as it did. -/
def lawS1722AAgreesBinarySearchSpec : ChangeSpec := { name := "lawS1722AAgreesBinarySearch", fn := fun _ => fun
  | [d1, d2, d3, d4, d5, d6, d7] => { results := [.lit (.bool true)], args := [d1, d2, d3, d4, d5, d6, d7] }
  | _ => none }
def lawS1722AAgreesBinarySearchRow : OpenClaim := { program := "ybulkaiqg", sum := "4a267dd455cc3e01f7f03318e7975c9ee90befeb211a1e46ee17073929506b96", func := "example.com/spindrift/spindrift.LawS1722AAgreesBinarySearch", spec := "lawS1722AAgreesBinarySearch", plainKeys := false, apart := false }
def LawS1722AAgreesBinarySearchSaid : Prop := lawS1722AAgreesBinarySearchRow.holds Yba.pinned (OpenSpec.ofChange lawS1722AAgreesBinarySearchSpec)

/-- ITS FALSE NEIGHBOUR: 'it returns false'. Refute it at one input. -/
def lawS1722AAgreesBinarySearchWrong : ChangeSpec := { name := "lawS1722AAgreesBinarySearch", fn := fun _ => fun
  | [d1, d2, d3, d4, d5, d6, d7] => { results := [.lit (.bool false)], args := [d1, d2, d3, d4, d5, d6, d7] }
  | _ => none }
def LawS1722AAgreesBinarySearchWrongFalsely : Prop := lawS1722AAgreesBinarySearchRow.holds Yba.pinned (OpenSpec.ofChange lawS1722AAgreesBinarySearchWrong)

/-- 'swarm.LawS1722BClock': WHATEVER THE INPUT: true; the input reads as it did. -/
def lawS1722BClockSpec : ChangeSpec := { name := "lawS1722BClock", fn := fun _ => fun
  | [d1, d2] => { results := [.lit (.bool true)], args := [d1, d2] }
  | _ => none }
def lawS1722BClockRow : OpenClaim := { program := "ybulkaiqg", sum := "4a267dd455cc3e01f7f03318e7975c9ee90befeb211a1e46ee17073929506b96", func := "example.com/spindrift/spindrift/internal/swarm.LawS1722BClock", spec := "lawS1722BClock", inPlace := ["sync/atomic.StoreInt64", "sync/atomic.LoadInt64"], plainKeys := false, apart := false }
def LawS1722BClockSaid : Prop := lawS1722BClockRow.holds Yba.pinned (OpenSpec.ofChange lawS1722BClockSpec)

/-- ITS FALSE NEIGHBOUR: 'it returns false'. Refute it at one input. -/
def lawS1722BClockWrong : ChangeSpec := { name := "lawS1722BClock", fn := fun _ => fun
  | [d1, d2] => { results := [.lit (.bool false)], args := [d1, d2] }
  | _ => none }
def LawS1722BClockWrongFalsely : Prop := lawS1722BClockRow.holds Yba.pinned (OpenSpec.ofChange lawS1722BClockWrong)

/-- 'swarm.LawS1722BEmpty': WHATEVER THE INPUT: true; the input reads as it did. -/
def lawS1722BEmptySpec : ChangeSpec := { name := "lawS1722BEmpty", fn := fun _ => fun
  | [d1, d2] => { results := [.lit (.bool true)], args := [d1, d2] }
  | _ => none }
def lawS1722BEmptyRow : OpenClaim := { program := "ybulkaiqg", sum := "4a267dd455cc3e01f7f03318e7975c9ee90befeb211a1e46ee17073929506b96", func := "example.com/spindrift/spindrift/internal/swarm.LawS1722BEmpty", spec := "lawS1722BEmpty", inPlace := ["sync/atomic.StoreInt64"], plainKeys := false, apart := false }
def LawS1722BEmptySaid : Prop := lawS1722BEmptyRow.holds Yba.pinned (OpenSpec.ofChange lawS1722BEmptySpec)

/-- ITS FALSE NEIGHBOUR: 'it returns false'. Refute it at one input. -/
def lawS1722BEmptyWrong : ChangeSpec := { name := "lawS1722BEmpty", fn := fun _ => fun
  | [d1, d2] => { results := [.lit (.bool false)], args := [d1, d2] }
  | _ => none }
def LawS1722BEmptyWrongFalsely : Prop := lawS1722BEmptyRow.holds Yba.pinned (OpenSpec.ofChange lawS1722BEmptyWrong)

end Rows
end Go.Proofs.Ybulkaiqg
