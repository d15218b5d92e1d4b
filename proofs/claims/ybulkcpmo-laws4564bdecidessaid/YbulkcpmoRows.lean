/-
  No cell of these rows narrows 'for every input' (looked for: loops, veiled, ifaces, maps, wideKeys, modest, calm, conditions, laid).
  DERIVED. THE GIVEN ROWS OF THIS SEAT. 3 by the template 'for every input the law returns true; each argument reads behind the call as it read before'; 0 by the template 'total and deterministic' (their statements: YbulkcpmoTotals.lean).
  GIVEN WITH THE SEED: the statements are not yours to turn. If you find one false, say at which input.
  Laid BY PROGRAM, IN A SANDBOX (cutbox-rows.mjs): the forced cells as the released guide's own fill.sh prints them over the translation 3b897d0c6b9d206f… (all of the seat's roots in one cut). By AI agents, Wed Nov 11 2026. No macro, syntax, notation, axiom, sorry.
-/
import Derived.Test.YbulkcpmoChecked
import GoSem.Claim
import GoSem.ClaimJoined
import GoSem.ClaimMapViews
import Derived.JoinedTies
import Derived.KernelRfl
namespace Go.Proofs.Ybulkcpmo
/- THE CELL 'sum', in the pinned program and in every row, IS THE sha256 OF THE DUMP (.gsa) THAT YbulkcpmoProg.lean LOADS. Nothing in Lean hashes anything: it is a label: what it is worth is what the hold of that sum in a sandbox is worth. -/
noncomputable def Yba.pinned : Pinned := { name := "ybulkcpmo", sum := "3b897d0c6b9d206f817ffbced689792cfb0df75a8bc191ac22c269639b1d7c5d", checked := Yba.checked }
namespace Rows
def none {H : Type} : Left H := { results := [], args := [] }

/-- 'careful-scheduler.LawS4564BDecides': WHATEVER THE INPUT: true; the input reads as it did. -/
def lawS4564BDecidesSpec : ChangeSpec := { name := "lawS4564BDecides", fn := fun _ => fun
  | [d1, d2, d3, d4, d5, d6, d7, d8, d9, d10] => { results := [.lit (.bool true)], args := [d1, d2, d3, d4, d5, d6, d7, d8, d9, d10] }
  | _ => none }
def lawS4564BDecidesRow : OpenClaim := { program := "ybulkcpmo", sum := "3b897d0c6b9d206f817ffbced689792cfb0df75a8bc191ac22c269639b1d7c5d", func := "example.com/careful-scheduler/careful-scheduler.LawS4564BDecides", spec := "lawS4564BDecides", inPlace := ["sync/atomic.StoreInt32", "sync/atomic.StorePointer", "sync/atomic.LoadUint32", "sync/atomic.LoadPointer", "sync/atomic.LoadInt32", "(*internal/sync.Mutex).Lock", "internal/race.Disable", "sync/atomic.CompareAndSwapInt32", "internal/race.Enable", "internal/race.Acquire", "(*internal/sync.Mutex).lockSlow", "internal/sync.runtime_canSpin", "internal/sync.runtime_doSpin", "internal/sync.throw", "internal/sync.runtime_nanotime", "internal/sync.runtime_SemacquireMutex", "sync/atomic.AddInt32", "(*internal/sync.Mutex).Unlock", "internal/race.ReleaseMerge", "(*internal/sync.Mutex).unlockSlow", "internal/sync.fatal", "internal/sync.runtime_Semrelease"], apart := false }
def LawS4564BDecidesSaid : Prop := lawS4564BDecidesRow.holds Yba.pinned (OpenSpec.ofChange lawS4564BDecidesSpec)

/-- ITS FALSE NEIGHBOUR: 'it returns false'. Refute it at one input. -/
def lawS4564BDecidesWrong : ChangeSpec := { name := "lawS4564BDecides", fn := fun _ => fun
  | [d1, d2, d3, d4, d5, d6, d7, d8, d9, d10] => { results := [.lit (.bool false)], args := [d1, d2, d3, d4, d5, d6, d7, d8, d9, d10] }
  | _ => none }
def LawS4564BDecidesWrongFalsely : Prop := lawS4564BDecidesRow.holds Yba.pinned (OpenSpec.ofChange lawS4564BDecidesWrong)

/-- 'uts.LawS4564CVisit': WHATEVER THE INPUT: true; the input reads as it did. -/
def lawS4564CVisitSpec : ChangeSpec := { name := "lawS4564CVisit", fn := fun _ => fun
  | [d1, d2, d3, d4, d5] => { results := [.lit (.bool true)], args := [d1, d2, d3, d4, d5] }
  | _ => none }
def lawS4564CVisitRow : OpenClaim := { program := "ybulkcpmo", sum := "3b897d0c6b9d206f817ffbced689792cfb0df75a8bc191ac22c269639b1d7c5d", func := "example.com/careful-scheduler/careful-scheduler/internal/uts.LawS4564CVisit", spec := "lawS4564CVisit", inPlace := ["sync/atomic.StoreInt64", "sync/atomic.AddInt64", "sync/atomic.LoadInt64", "sync/atomic.CompareAndSwapInt64"], named := ["encoding/binary.BigEndian"], apart := false }
def LawS4564CVisitSaid : Prop := lawS4564CVisitRow.holds Yba.pinned (OpenSpec.ofChange lawS4564CVisitSpec)

/-- ITS FALSE NEIGHBOUR: 'it returns false'. Refute it at one input. -/
def lawS4564CVisitWrong : ChangeSpec := { name := "lawS4564CVisit", fn := fun _ => fun
  | [d1, d2, d3, d4, d5] => { results := [.lit (.bool false)], args := [d1, d2, d3, d4, d5] }
  | _ => none }
def LawS4564CVisitWrongFalsely : Prop := lawS4564CVisitRow.holds Yba.pinned (OpenSpec.ofChange lawS4564CVisitWrong)

/-- 'uts.LawS4564CSequence': WHATEVER THE INPUT: true; the input reads as it did. -/
def lawS4564CSequenceSpec : ChangeSpec := { name := "lawS4564CSequence", fn := fun _ => fun
  | [d1, d2] => { results := [.lit (.bool true)], args := [d1, d2] }
  | _ => none }
def lawS4564CSequenceRow : OpenClaim := { program := "ybulkcpmo", sum := "3b897d0c6b9d206f817ffbced689792cfb0df75a8bc191ac22c269639b1d7c5d", func := "example.com/careful-scheduler/careful-scheduler/internal/uts.LawS4564CSequence", spec := "lawS4564CSequence", inPlace := ["sync/atomic.AddInt64", "sync/atomic.LoadInt64", "sync/atomic.CompareAndSwapInt64"], named := ["encoding/binary.BigEndian"], apart := false }
def LawS4564CSequenceSaid : Prop := lawS4564CSequenceRow.holds Yba.pinned (OpenSpec.ofChange lawS4564CSequenceSpec)

/-- ITS FALSE NEIGHBOUR: 'it returns false'. Refute it at one input. -/
def lawS4564CSequenceWrong : ChangeSpec := { name := "lawS4564CSequence", fn := fun _ => fun
  | [d1, d2] => { results := [.lit (.bool false)], args := [d1, d2] }
  | _ => none }
def LawS4564CSequenceWrongFalsely : Prop := lawS4564CSequenceRow.holds Yba.pinned (OpenSpec.ofChange lawS4564CSequenceWrong)

end Rows
end Go.Proofs.Ybulkcpmo
