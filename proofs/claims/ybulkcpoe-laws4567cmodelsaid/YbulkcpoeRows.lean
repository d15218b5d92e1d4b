/-
  No cell of these rows narrows 'for every input' (looked for: loops, veiled, ifaces, maps, wideKeys, modest, calm, conditions, laid).
  DERIVED. THE GIVEN ROWS OF THIS SEAT. 4 by the template 'for every input the law returns true; each argument reads behind the call as it read before'; 0 by the template 'total and deterministic' (their statements: YbulkcpoeTotals.lean).
  GIVEN WITH THE SEED: the statements are not yours to turn. If you find one false, say at which input.
  Laid BY PROGRAM, IN A SANDBOX (cutbox-rows.mjs): the forced cells as the released guide's own fill.sh prints them over the translation 11cd1199165ce07b… (all of the seat's roots in one cut). By AI agents, Wed Nov 11 2026. No macro, syntax, notation, axiom, sorry.
-/
import Derived.Test.YbulkcpoeChecked
import GoSem.Claim
import GoSem.ClaimJoined
import GoSem.ClaimMapViews
import Derived.JoinedTies
import Derived.KernelRfl
namespace Go.Proofs.Ybulkcpoe
/- THE CELL 'sum', in the pinned program and in every row, IS THE sha256 OF THE DUMP (.gsa) THAT YbulkcpoeProg.lean LOADS. Nothing in Lean hashes anything: it is a label: what it is worth is what the hold of that sum in a sandbox is worth. -/
noncomputable def Yba.pinned : Pinned := { name := "ybulkcpoe", sum := "11cd1199165ce07b19a5a81eb4b2a0279a2f1ba7a9b89e1fb2beb2bef17014af", checked := Yba.checked }
namespace Rows
def none {H : Type} : Left H := { results := [], args := [] }

/-- 'station.LawS4567AConfig': WHATEVER THE INPUT: true; the input reads as it did. -/
def lawS4567AConfigSpec : ChangeSpec := { name := "lawS4567AConfig", fn := fun _ => fun
  | [d1, d2, d3, d4] => { results := [.lit (.bool true)], args := [d1, d2, d3, d4] }
  | _ => none }
def lawS4567AConfigRow : OpenClaim := { program := "ybulkcpoe", sum := "11cd1199165ce07b19a5a81eb4b2a0279a2f1ba7a9b89e1fb2beb2bef17014af", func := "example.com/ribwatch/ribwatch/station.LawS4567AConfig", spec := "lawS4567AConfig", plainKeys := false, apart := false }
def LawS4567AConfigSaid : Prop := lawS4567AConfigRow.holds Yba.pinned (OpenSpec.ofChange lawS4567AConfigSpec)

/-- ITS FALSE NEIGHBOUR: 'it returns false'. Refute it at one input. -/
def lawS4567AConfigWrong : ChangeSpec := { name := "lawS4567AConfig", fn := fun _ => fun
  | [d1, d2, d3, d4] => { results := [.lit (.bool false)], args := [d1, d2, d3, d4] }
  | _ => none }
def LawS4567AConfigWrongFalsely : Prop := lawS4567AConfigRow.holds Yba.pinned (OpenSpec.ofChange lawS4567AConfigWrong)

/-- 'station.LawS4567AEvents': WHATEVER THE INPUT: true; the input reads as it did. -/
def lawS4567AEventsSpec : ChangeSpec := { name := "lawS4567AEvents", fn := fun _ => fun
  | [d1, d2] => { results := [.lit (.bool true)], args := [d1, d2] }
  | _ => none }
def lawS4567AEventsRow : OpenClaim := { program := "ybulkcpoe", sum := "11cd1199165ce07b19a5a81eb4b2a0279a2f1ba7a9b89e1fb2beb2bef17014af", func := "example.com/ribwatch/ribwatch/station.LawS4567AEvents", spec := "lawS4567AEvents", unfollowed := true, recurses := true, plainKeys := false, apart := false }
def LawS4567AEventsSaid : Prop := lawS4567AEventsRow.holds Yba.pinned (OpenSpec.ofChange lawS4567AEventsSpec)

/-- ITS FALSE NEIGHBOUR: 'it returns false'. Refute it at one input. -/
def lawS4567AEventsWrong : ChangeSpec := { name := "lawS4567AEvents", fn := fun _ => fun
  | [d1, d2] => { results := [.lit (.bool false)], args := [d1, d2] }
  | _ => none }
def LawS4567AEventsWrongFalsely : Prop := lawS4567AEventsRow.holds Yba.pinned (OpenSpec.ofChange lawS4567AEventsWrong)

/-- 'station.LawS4567CModel': WHATEVER THE INPUT: true; the input reads as it did. -/
def lawS4567CModelSpec : ChangeSpec := { name := "lawS4567CModel", fn := fun _ => fun
  | [d1, d2, d3, d4, d5, d6] => { results := [.lit (.bool true)], args := [d1, d2, d3, d4, d5, d6] }
  | _ => none }
def lawS4567CModelRow : OpenClaim := { program := "ybulkcpoe", sum := "11cd1199165ce07b19a5a81eb4b2a0279a2f1ba7a9b89e1fb2beb2bef17014af", func := "example.com/ribwatch/ribwatch/station.LawS4567CModel", spec := "lawS4567CModel", plainKeys := false, apart := false }
def LawS4567CModelSaid : Prop := lawS4567CModelRow.holds Yba.pinned (OpenSpec.ofChange lawS4567CModelSpec)

/-- ITS FALSE NEIGHBOUR: 'it returns false'. Refute it at one input. -/
def lawS4567CModelWrong : ChangeSpec := { name := "lawS4567CModel", fn := fun _ => fun
  | [d1, d2, d3, d4, d5, d6] => { results := [.lit (.bool false)], args := [d1, d2, d3, d4, d5, d6] }
  | _ => none }
def LawS4567CModelWrongFalsely : Prop := lawS4567CModelRow.holds Yba.pinned (OpenSpec.ofChange lawS4567CModelWrong)

/-- 'station.LawS4567CTwice': WHATEVER THE INPUT: true; the input reads as it did. -/
def lawS4567CTwiceSpec : ChangeSpec := { name := "lawS4567CTwice", fn := fun _ => fun
  | [d1, d2, d3, d4, d5, d6, d7] => { results := [.lit (.bool true)], args := [d1, d2, d3, d4, d5, d6, d7] }
  | _ => none }
def lawS4567CTwiceRow : OpenClaim := { program := "ybulkcpoe", sum := "11cd1199165ce07b19a5a81eb4b2a0279a2f1ba7a9b89e1fb2beb2bef17014af", func := "example.com/ribwatch/ribwatch/station.LawS4567CTwice", spec := "lawS4567CTwice", plainKeys := false, apart := false }
def LawS4567CTwiceSaid : Prop := lawS4567CTwiceRow.holds Yba.pinned (OpenSpec.ofChange lawS4567CTwiceSpec)

/-- ITS FALSE NEIGHBOUR: 'it returns false'. Refute it at one input. -/
def lawS4567CTwiceWrong : ChangeSpec := { name := "lawS4567CTwice", fn := fun _ => fun
  | [d1, d2, d3, d4, d5, d6, d7] => { results := [.lit (.bool false)], args := [d1, d2, d3, d4, d5, d6, d7] }
  | _ => none }
def LawS4567CTwiceWrongFalsely : Prop := lawS4567CTwiceRow.holds Yba.pinned (OpenSpec.ofChange lawS4567CTwiceWrong)

end Rows
end Go.Proofs.Ybulkcpoe
