/-
  NARROWER THAN 'FOR EVERY INPUT', by the rows' own cells (each row's printed sentence says how): LawS4564AWithdraw: laid.
  DERIVED. THE GIVEN ROWS OF THIS SEAT. 1 by the template 'for every input the law returns true; each argument reads behind the call as it read before'; 0 by the template 'total and deterministic' (their statements: YbulkcpmoDoorTotals.lean).
  GIVEN WITH THE SEED: the statements are not yours to turn. If you find one false, say at which input.
  Laid BY PROGRAM, IN A SANDBOX (cutbox-rows.mjs): the forced cells as the released guide's own fill.sh prints them over the translation 26c090e06bbe8983… (all of the seat's roots in one cut). By AI agents, Wed Nov 11 2026. No macro, syntax, notation, axiom, sorry.
-/
import Derived.Test.YbulkcpmoDoorChecked
import GoSem.Claim
import GoSem.ClaimJoined
import GoSem.ClaimMapViews
import Derived.JoinedTies
import Derived.KernelRfl
namespace Go.Proofs.YbulkcpmoDoor
/- THE CELL 'sum', in the pinned program and in every row, IS THE sha256 OF THE DUMP (.gsa) THAT YbulkcpmoDoorProg.lean LOADS. Nothing in Lean hashes anything: it is a label: what it is worth is what the hold of that sum in a sandbox is worth. -/
noncomputable def Ybad.pinned : Pinned := { name := "ybulkcpmodoor", sum := "26c090e06bbe8983207c9e01a65cf5893b6e70d418949f3bf9cfdfc17febc1a5", checked := Ybad.checked }
namespace Rows
def none {H : Type} : Left H := { results := [], args := [] }

/- WHAT THE LISTED PACKAGE-LEVEL VARIABLES READ AS WHEN THE CALL BEGINS. Each datum BY PROGRAM (the guide's laid-datum.mjs) off the statement by which the dump's own 'gosem.cut.vars' lays the variable. In a bare row this is a premise. The card (YbulkcpmoDoorCards.lean) ties it to the program's text. -/
def laid_example_com_careful_scheduler_careful_scheduler_checkInvariants {H : Type} : DataW H := .lit (.bool false)

/-- 'careful-scheduler.LawS4564AWithdraw': WHATEVER THE INPUT: true; the input reads as it did. -/
def lawS4564AWithdrawSpec : ChangeSpec := { name := "lawS4564AWithdraw", vars := ["example.com/careful-scheduler/careful-scheduler.checkInvariants"], fn := fun _ => fun
  | [d1, d2, d3, d4, d5, d6, d7, d8, d9, g1] => { results := [.lit (.bool true)], args := [d1, d2, d3, d4, d5, d6, d7, d8, d9], vars := [g1] }
  | _ => none }
def lawS4564AWithdrawRow : OpenClaim := { program := "ybulkcpmodoor", sum := "26c090e06bbe8983207c9e01a65cf5893b6e70d418949f3bf9cfdfc17febc1a5", func := "example.com/careful-scheduler/careful-scheduler.LawS4564AWithdraw", spec := "lawS4564AWithdraw", inPlace := ["sync/atomic.StoreUint64", "sync/atomic.StoreInt32", "(*internal/sync.Mutex).Lock", "internal/race.Disable", "sync/atomic.CompareAndSwapInt32", "internal/race.Enable", "internal/race.Acquire", "(*internal/sync.Mutex).lockSlow", "internal/sync.runtime_canSpin", "internal/sync.runtime_doSpin", "internal/sync.throw", "internal/sync.runtime_nanotime", "internal/sync.runtime_SemacquireMutex", "sync/atomic.AddInt32", "(*internal/sync.Mutex).Unlock", "internal/race.ReleaseMerge", "(*internal/sync.Mutex).unlockSlow", "internal/sync.fatal", "internal/sync.runtime_Semrelease", "sync/atomic.LoadUint32", "sync/atomic.LoadPointer", "sync/atomic.LoadInt32", "sync/atomic.LoadUint64"], named := ["example.com/careful-scheduler/careful-scheduler.checkInvariants"], apart := false, laid := [("example.com/careful-scheduler/careful-scheduler.checkInvariants", laid_example_com_careful_scheduler_careful_scheduler_checkInvariants)] }
def LawS4564AWithdrawSaid : Prop := lawS4564AWithdrawRow.holds Ybad.pinned (OpenSpec.ofChange lawS4564AWithdrawSpec)

/-- ITS FALSE NEIGHBOUR: 'it returns false'. Refute it at one input. -/
def lawS4564AWithdrawWrong : ChangeSpec := { name := "lawS4564AWithdraw", vars := ["example.com/careful-scheduler/careful-scheduler.checkInvariants"], fn := fun _ => fun
  | [d1, d2, d3, d4, d5, d6, d7, d8, d9, g1] => { results := [.lit (.bool false)], args := [d1, d2, d3, d4, d5, d6, d7, d8, d9], vars := [g1] }
  | _ => none }
def LawS4564AWithdrawWrongFalsely : Prop := lawS4564AWithdrawRow.holds Ybad.pinned (OpenSpec.ofChange lawS4564AWithdrawWrong)

end Rows
end Go.Proofs.YbulkcpmoDoor
