/-
  DERIVED. GIVEN WITH THE SEED: THE CARDS: each row of YbulkciosFmtRows.lean that lists a variable, with what it lists TIED to the program's text (the seventh form; the later family's looks); each row that meets fmt, with fmt's text TOLD by the authors' own Lean function (tested against real Go, not proved from fmt's source: count such statements apart). THE CARD IS WHAT COUNTS. Prove the row's statement (the work); the ties are given (YbulkciosFmtTie.lean); close each card by the builder's one call (the guide's Derived/Test/ToyasCard.lean, 'card_holds'). Laid BY PROGRAM, IN A SANDBOX (cutbox-door.mjs). By AI agents, Wed Nov 11 2026. No macro, syntax, notation, axiom, sorry.
-/
import Derived.Test.YbulkciosFmtRows
import GoSem.ClaimSeven
namespace Go.Proofs.YbulkciosFmt
namespace Rows

/-- THE TOLD CARD OF 'btree.LawS4230CLeaf'. -/
def lawS4230CLeafCard : Claim7 := { stood := { row := lawS4230CLeafRow, standIns := [], harness := (true, "88e1b1fd6b1015920ad3da3e32d81b27cde11b3de6dbb21ddfdbff3e3c06bbcd"), looks := false }, told := true, goes := false }
def LawS4230CLeafToldSaid : Prop := Claim7.holds Ybaf.pinned (.plain (OpenSpec.ofChange lawS4230CLeafSpec)) lawS4230CLeafCard
/-- ITS FALSE NEIGHBOUR. Refute it at one input. -/
def LawS4230CLeafToldWrongFalsely : Prop := Claim7.holds Ybaf.pinned (.plain (OpenSpec.ofChange lawS4230CLeafWrong)) lawS4230CLeafCard

/-- THE TOLD CARD OF 'btree.LawS4230CBranch'. -/
def lawS4230CBranchCard : Claim7 := { stood := { row := lawS4230CBranchRow, standIns := [], harness := (true, "88e1b1fd6b1015920ad3da3e32d81b27cde11b3de6dbb21ddfdbff3e3c06bbcd"), looks := false }, told := true, goes := false }
def LawS4230CBranchToldSaid : Prop := Claim7.holds Ybaf.pinned (.plain (OpenSpec.ofChange lawS4230CBranchSpec)) lawS4230CBranchCard
/-- ITS FALSE NEIGHBOUR. Refute it at one input. -/
def LawS4230CBranchToldWrongFalsely : Prop := Claim7.holds Ybaf.pinned (.plain (OpenSpec.ofChange lawS4230CBranchWrong)) lawS4230CBranchCard
end Rows
end Go.Proofs.YbulkciosFmt
