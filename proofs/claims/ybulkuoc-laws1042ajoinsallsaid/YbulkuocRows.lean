/-
  No cell of these rows narrows 'for every input' (looked for: loops, veiled, ifaces, maps, wideKeys, modest, calm, conditions, laid).
  DERIVED. THE GIVEN ROWS OF THIS SEAT. 5 by the template 'for every input the law returns true; each argument reads behind the call as it read before'; 0 by the template 'total and deterministic' (their statements: YbulkuocTotals.lean).
  GIVEN WITH THE SEED: the statements are not yours to turn. If you find one false, say at which input.
  Laid BY PROGRAM, IN A SANDBOX (cutbox-rows.mjs): the forced cells as the released guide's own fill.sh prints them over the translation ebdcf39b877400f6… (all of the seat's roots in one cut). By AI agents, Wed Nov 11 2026. No macro, syntax, notation, axiom, sorry.
-/
import Derived.Test.YbulkuocChecked
import GoSem.Claim
import GoSem.ClaimJoined
import GoSem.ClaimMapViews
import Derived.JoinedTies
import Derived.KernelRfl
namespace Go.Proofs.Ybulkuoc
/- THE CELL 'sum', in the pinned program and in every row, IS THE sha256 OF THE DUMP (.gsa) THAT YbulkuocProg.lean LOADS. Nothing in Lean hashes anything: it is a label: what it is worth is what the hold of that sum in a sandbox is worth. -/
noncomputable def Yba.pinned : Pinned := { name := "ybulkuoc", sum := "ebdcf39b877400f6f752c2a9b52babf4f55535d669bfb05ff645eca5379a05c3", checked := Yba.checked }
namespace Rows
def none {H : Type} : Left H := { results := [], args := [] }

/-- 'graph.LawS1042AJoinsAll': WHATEVER THE INPUT: true; the input reads as it did. -/
def lawS1042AJoinsAllSpec : ChangeSpec := { name := "lawS1042AJoinsAll", fn := fun _ => fun
  | [d1, d2, d3] => { results := [.lit (.bool true)], args := [d1, d2, d3] }
  | _ => none }
def lawS1042AJoinsAllRow : OpenClaim := { program := "ybulkuoc", sum := "ebdcf39b877400f6f752c2a9b52babf4f55535d669bfb05ff645eca5379a05c3", func := "example.com/commitwise/commitwise/graph.LawS1042AJoinsAll", spec := "lawS1042AJoinsAll", inPlace := ["slices.overlaps[int]"], unfollowed := true, recurses := true, plainKeys := false, apart := false }
def LawS1042AJoinsAllSaid : Prop := lawS1042AJoinsAllRow.holds Yba.pinned (OpenSpec.ofChange lawS1042AJoinsAllSpec)

/-- ITS FALSE NEIGHBOUR: 'it returns false'. Refute it at one input. -/
def lawS1042AJoinsAllWrong : ChangeSpec := { name := "lawS1042AJoinsAll", fn := fun _ => fun
  | [d1, d2, d3] => { results := [.lit (.bool false)], args := [d1, d2, d3] }
  | _ => none }
def LawS1042AJoinsAllWrongFalsely : Prop := lawS1042AJoinsAllRow.holds Yba.pinned (OpenSpec.ofChange lawS1042AJoinsAllWrong)

/-- 'graph.LawS1042ABudget': WHATEVER THE INPUT: true; the input reads as it did. -/
def lawS1042ABudgetSpec : ChangeSpec := { name := "lawS1042ABudget", fn := fun _ => fun
  | [d1, d2, d3, d4] => { results := [.lit (.bool true)], args := [d1, d2, d3, d4] }
  | _ => none }
def lawS1042ABudgetRow : OpenClaim := { program := "ybulkuoc", sum := "ebdcf39b877400f6f752c2a9b52babf4f55535d669bfb05ff645eca5379a05c3", func := "example.com/commitwise/commitwise/graph.LawS1042ABudget", spec := "lawS1042ABudget", inPlace := ["slices.overlaps[int]"], unfollowed := true, recurses := true, plainKeys := false, apart := false }
def LawS1042ABudgetSaid : Prop := lawS1042ABudgetRow.holds Yba.pinned (OpenSpec.ofChange lawS1042ABudgetSpec)

/-- ITS FALSE NEIGHBOUR: 'it returns false'. Refute it at one input. -/
def lawS1042ABudgetWrong : ChangeSpec := { name := "lawS1042ABudget", fn := fun _ => fun
  | [d1, d2, d3, d4] => { results := [.lit (.bool false)], args := [d1, d2, d3, d4] }
  | _ => none }
def LawS1042ABudgetWrongFalsely : Prop := lawS1042ABudgetRow.holds Yba.pinned (OpenSpec.ofChange lawS1042ABudgetWrong)

/-- 'schedule.LawS1042BFirstCome': WHATEVER THE INPUT: true; the input reads as it did. -/
def lawS1042BFirstComeSpec : ChangeSpec := { name := "lawS1042BFirstCome", fn := fun _ => fun
  | [d] => { results := [.lit (.bool true)], args := [d] }
  | _ => none }
def lawS1042BFirstComeRow : OpenClaim := { program := "ybulkuoc", sum := "ebdcf39b877400f6f752c2a9b52babf4f55535d669bfb05ff645eca5379a05c3", func := "example.com/commitwise/commitwise/schedule.LawS1042BFirstCome", spec := "lawS1042BFirstCome", plainKeys := false, apart := false }
def LawS1042BFirstComeSaid : Prop := lawS1042BFirstComeRow.holds Yba.pinned (OpenSpec.ofChange lawS1042BFirstComeSpec)

/-- ITS FALSE NEIGHBOUR: 'it returns false'. Refute it at one input. -/
def lawS1042BFirstComeWrong : ChangeSpec := { name := "lawS1042BFirstCome", fn := fun _ => fun
  | [d] => { results := [.lit (.bool false)], args := [d] }
  | _ => none }
def LawS1042BFirstComeWrongFalsely : Prop := lawS1042BFirstComeRow.holds Yba.pinned (OpenSpec.ofChange lawS1042BFirstComeWrong)

/-- 'schedule.LawS1042BAgain': WHATEVER THE INPUT: true; the input reads as it did. -/
def lawS1042BAgainSpec : ChangeSpec := { name := "lawS1042BAgain", fn := fun _ => fun
  | [d1, d2] => { results := [.lit (.bool true)], args := [d1, d2] }
  | _ => none }
def lawS1042BAgainRow : OpenClaim := { program := "ybulkuoc", sum := "ebdcf39b877400f6f752c2a9b52babf4f55535d669bfb05ff645eca5379a05c3", func := "example.com/commitwise/commitwise/schedule.LawS1042BAgain", spec := "lawS1042BAgain", plainKeys := false, apart := false }
def LawS1042BAgainSaid : Prop := lawS1042BAgainRow.holds Yba.pinned (OpenSpec.ofChange lawS1042BAgainSpec)

/-- ITS FALSE NEIGHBOUR: 'it returns false'. Refute it at one input. -/
def lawS1042BAgainWrong : ChangeSpec := { name := "lawS1042BAgain", fn := fun _ => fun
  | [d1, d2] => { results := [.lit (.bool false)], args := [d1, d2] }
  | _ => none }
def LawS1042BAgainWrongFalsely : Prop := lawS1042BAgainRow.holds Yba.pinned (OpenSpec.ofChange lawS1042BAgainWrong)

/-- 'scheduler.LawS1042CRemoves': WHATEVER THE INPUT: true; the input reads as it did. -/
def lawS1042CRemovesSpec : ChangeSpec := { name := "lawS1042CRemoves", fn := fun _ => fun
  | [d1, d2, d3, d4, d5] => { results := [.lit (.bool true)], args := [d1, d2, d3, d4, d5] }
  | _ => none }
def lawS1042CRemovesRow : OpenClaim := { program := "ybulkuoc", sum := "ebdcf39b877400f6f752c2a9b52babf4f55535d669bfb05ff645eca5379a05c3", func := "example.com/commitwise/commitwise/scheduler.LawS1042CRemoves", spec := "lawS1042CRemoves", unfollowed := true, recurses := true, plainKeys := false, apart := false }
def LawS1042CRemovesSaid : Prop := lawS1042CRemovesRow.holds Yba.pinned (OpenSpec.ofChange lawS1042CRemovesSpec)

/-- ITS FALSE NEIGHBOUR: 'it returns false'. Refute it at one input. -/
def lawS1042CRemovesWrong : ChangeSpec := { name := "lawS1042CRemoves", fn := fun _ => fun
  | [d1, d2, d3, d4, d5] => { results := [.lit (.bool false)], args := [d1, d2, d3, d4, d5] }
  | _ => none }
def LawS1042CRemovesWrongFalsely : Prop := lawS1042CRemovesRow.holds Yba.pinned (OpenSpec.ofChange lawS1042CRemovesWrong)

end Rows
end Go.Proofs.Ybulkuoc
