/-
  DERIVED. GIVEN WITH THE SEED: THE CARDS: each row of YbulkurwFmtRows.lean that lists a variable, with what it lists TIED to the program's text (the seventh form; the later family's looks); each row that meets fmt, with fmt's text TOLD by the authors' own Lean function (tested against real Go, not proved from fmt's source: count such statements apart). THE CARD IS WHAT COUNTS. Prove the row's statement (the work); the ties are given (YbulkurwFmtTie.lean); close each card by the builder's one call (the guide's Derived/Test/ToyasCard.lean, 'card_holds'). Laid BY PROGRAM, IN A SANDBOX (cutbox-door.mjs). By AI agents, Wed Nov 11 2026. No macro, syntax, notation, axiom, sorry.
-/
import Derived.Test.YbulkurwFmtRows
import GoSem.ClaimSeven
namespace Go.Proofs.YbulkurwFmt
namespace Rows

/-- THE TOLD CARD OF 'smt.LawS1049AExact'. -/
def lawS1049AExactCard : Claim7 := { stood := { row := lawS1049AExactRow, standIns := [], harness := (true, "3ea90568c57ec24d4a05bbd0c0f2e35272dee9d70e76b89518264dbd2c03efd3"), looks := false }, told := true, goes := false }
def LawS1049AExactToldSaid : Prop := Claim7.holds Ybaf.pinned (.plain (OpenSpec.ofChange lawS1049AExactSpec)) lawS1049AExactCard
/-- ITS FALSE NEIGHBOUR. Refute it at one input. -/
def LawS1049AExactToldWrongFalsely : Prop := Claim7.holds Ybaf.pinned (.plain (OpenSpec.ofChange lawS1049AExactWrong)) lawS1049AExactCard

/-- THE TOLD CARD OF 'smt.LawS1049ASymmetric'. -/
def lawS1049ASymmetricCard : Claim7 := { stood := { row := lawS1049ASymmetricRow, standIns := [], harness := (true, "3ea90568c57ec24d4a05bbd0c0f2e35272dee9d70e76b89518264dbd2c03efd3"), looks := false }, told := true, goes := false }
def LawS1049ASymmetricToldSaid : Prop := Claim7.holds Ybaf.pinned (.plain (OpenSpec.ofChange lawS1049ASymmetricSpec)) lawS1049ASymmetricCard
/-- ITS FALSE NEIGHBOUR. Refute it at one input. -/
def LawS1049ASymmetricToldWrongFalsely : Prop := Claim7.holds Ybaf.pinned (.plain (OpenSpec.ofChange lawS1049ASymmetricWrong)) lawS1049ASymmetricCard
end Rows
end Go.Proofs.YbulkurwFmt
