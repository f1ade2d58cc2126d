/-
  No cell of these rows narrows 'for every input' (looked for: loops, veiled, ifaces, maps, wideKeys, modest, calm, conditions, laid).
  DERIVED. THE GIVEN ROWS OF THIS SEAT. 2 by the template 'for every input the law returns true; each argument reads behind the call as it read before'; 0 by the template 'total and deterministic' (their statements: YbulkurwFmtTotals.lean).
  GIVEN WITH THE SEED: the statements are not yours to turn. If you find one false, say at which input.
  Laid BY PROGRAM, IN A SANDBOX (cutbox-rows.mjs): the forced cells as the released guide's own fill.sh prints them over the translation fe65eb4ddeff36f3… (all of the seat's roots in one cut). By AI agents, Wed Nov 11 2026. No macro, syntax, notation, axiom, sorry.
-/
import Derived.Test.YbulkurwFmtChecked
import GoSem.Claim
import GoSem.ClaimJoined
import GoSem.ClaimMapViews
import Derived.JoinedTies
import Derived.KernelRfl
namespace Go.Proofs.YbulkurwFmt
/- THE CELL 'sum', in the pinned program and in every row, IS THE sha256 OF THE DUMP (.gsa) THAT YbulkurwFmtProg.lean LOADS. Nothing in Lean hashes anything: it is a label: what it is worth is what the hold of that sum in a sandbox is worth. -/
noncomputable def Ybaf.pinned : Pinned := { name := "ybulkurwfmt", sum := "fe65eb4ddeff36f3172d5b98da3b0442c05c67e51a111af1cb4cf833ac4194ce", checked := Ybaf.checked }
namespace Rows
def none {H : Type} : Left H := { results := [], args := [] }

/-- 'smt.LawS1049AExact': WHATEVER THE INPUT: true; the input reads as it did. -/
def lawS1049AExactSpec : ChangeSpec := { name := "lawS1049AExact", fn := fun _ => fun
  | [d1, d2, d3, d4, d5, d6, d7] => { results := [.lit (.bool true)], args := [d1, d2, d3, d4, d5, d6, d7] }
  | _ => none }
def lawS1049AExactRow : OpenClaim := { program := "ybulkurwfmt", sum := "fe65eb4ddeff36f3172d5b98da3b0442c05c67e51a111af1cb4cf833ac4194ce", func := "example.com/carrybit/carrybit/smt.LawS1049AExact", spec := "lawS1049AExact", stops := ["fmt.Sprintf, its operands' methods called", "fmt.Sprint"], inPlace := ["fmt.Sprintf"], unfollowed := true, recurses := true, apart := false }
/-- NO THEOREM (fmt's text is open here; it may be false): for the released tool's asking of the row's closed facts alone. THE STATEMENT IS 'LawS1049AExactToldSaid' (YbulkurwFmtCards.lean). -/
def LawS1049AExactFormAsk : Prop := lawS1049AExactRow.holds Ybaf.pinned (OpenSpec.ofChange lawS1049AExactSpec)

/-- ITS FALSE NEIGHBOUR: 'it returns false'. Refute it at one input. -/
def lawS1049AExactWrong : ChangeSpec := { name := "lawS1049AExact", fn := fun _ => fun
  | [d1, d2, d3, d4, d5, d6, d7] => { results := [.lit (.bool false)], args := [d1, d2, d3, d4, d5, d6, d7] }
  | _ => none }
def LawS1049AExactWrongFormAsk : Prop := lawS1049AExactRow.holds Ybaf.pinned (OpenSpec.ofChange lawS1049AExactWrong)

/-- 'smt.LawS1049ASymmetric': WHATEVER THE INPUT: true; the input reads as it did. -/
def lawS1049ASymmetricSpec : ChangeSpec := { name := "lawS1049ASymmetric", fn := fun _ => fun
  | [d1, d2, d3, d4, d5, d6, d7] => { results := [.lit (.bool true)], args := [d1, d2, d3, d4, d5, d6, d7] }
  | _ => none }
def lawS1049ASymmetricRow : OpenClaim := { program := "ybulkurwfmt", sum := "fe65eb4ddeff36f3172d5b98da3b0442c05c67e51a111af1cb4cf833ac4194ce", func := "example.com/carrybit/carrybit/smt.LawS1049ASymmetric", spec := "lawS1049ASymmetric", stops := ["fmt.Sprintf, its operands' methods called", "fmt.Sprint"], inPlace := ["fmt.Sprintf"], unfollowed := true, recurses := true, apart := false }
/-- NO THEOREM (fmt's text is open here; it may be false): for the released tool's asking of the row's closed facts alone. THE STATEMENT IS 'LawS1049ASymmetricToldSaid' (YbulkurwFmtCards.lean). -/
def LawS1049ASymmetricFormAsk : Prop := lawS1049ASymmetricRow.holds Ybaf.pinned (OpenSpec.ofChange lawS1049ASymmetricSpec)

/-- ITS FALSE NEIGHBOUR: 'it returns false'. Refute it at one input. -/
def lawS1049ASymmetricWrong : ChangeSpec := { name := "lawS1049ASymmetric", fn := fun _ => fun
  | [d1, d2, d3, d4, d5, d6, d7] => { results := [.lit (.bool false)], args := [d1, d2, d3, d4, d5, d6, d7] }
  | _ => none }
def LawS1049ASymmetricWrongFormAsk : Prop := lawS1049ASymmetricRow.holds Ybaf.pinned (OpenSpec.ofChange lawS1049ASymmetricWrong)

end Rows
end Go.Proofs.YbulkurwFmt
