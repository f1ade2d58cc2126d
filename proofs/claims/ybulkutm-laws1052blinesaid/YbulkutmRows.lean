/-
  No cell of these rows narrows 'for every input' (looked for: loops, veiled, ifaces, maps, wideKeys, modest, calm, conditions, laid).
  DERIVED. THE GIVEN ROWS OF THIS SEAT. 1 by the template 'for every input the law returns true; each argument reads behind the call as it read before'; 0 by the template 'total and deterministic' (their statements: YbulkutmTotals.lean).
  GIVEN WITH THE SEED: the statements are not yours to turn. If you find one false, say at which input.
  Laid BY PROGRAM, IN A SANDBOX (cutbox-rows.mjs): the forced cells as the released guide's own fill.sh prints them over the translation 642c59c914adba5a… (all of the seat's roots in one cut). By AI agents, Wed Nov 11 2026. No macro, syntax, notation, axiom, sorry.
-/
import Derived.Test.YbulkutmChecked
import GoSem.Claim
import GoSem.ClaimJoined
import GoSem.ClaimMapViews
import Derived.JoinedTies
import Derived.KernelRfl
namespace Go.Proofs.Ybulkutm
/- THE CELL 'sum', in the pinned program and in every row, IS THE sha256 OF THE DUMP (.gsa) THAT YbulkutmProg.lean LOADS. Nothing in Lean hashes anything: it is a label: what it is worth is what the hold of that sum in a sandbox is worth. -/
noncomputable def Yba.pinned : Pinned := { name := "ybulkutm", sum := "642c59c914adba5a1d85272aac8570a8f9af905d9395dc715f0492733ce58be8", checked := Yba.checked }
namespace Rows
def none {H : Type} : Left H := { results := [], args := [] }

/-- 'loaderconf.LawS1052BLine': WHATEVER THE INPUT: true; the input reads as it did. -/
def lawS1052BLineSpec : ChangeSpec := { name := "lawS1052BLine", fn := fun _ => fun
  | [d1, d2, d3, d4, d5, d6, d7] => { results := [.lit (.bool true)], args := [d1, d2, d3, d4, d5, d6, d7] }
  | _ => none }
def lawS1052BLineRow : OpenClaim := { program := "ybulkutm", sum := "642c59c914adba5a1d85272aac8570a8f9af905d9395dc715f0492733ce58be8", func := "example.com/helmsway/helmsway/pkg/loaderconf.LawS1052BLine", spec := "lawS1052BLine", apart := false }
def LawS1052BLineSaid : Prop := lawS1052BLineRow.holds Yba.pinned (OpenSpec.ofChange lawS1052BLineSpec)

/-- ITS FALSE NEIGHBOUR: 'it returns false'. Refute it at one input. -/
def lawS1052BLineWrong : ChangeSpec := { name := "lawS1052BLine", fn := fun _ => fun
  | [d1, d2, d3, d4, d5, d6, d7] => { results := [.lit (.bool false)], args := [d1, d2, d3, d4, d5, d6, d7] }
  | _ => none }
def LawS1052BLineWrongFalsely : Prop := lawS1052BLineRow.holds Yba.pinned (OpenSpec.ofChange lawS1052BLineWrong)

end Rows
end Go.Proofs.Ybulkutm
