/-
  No cell of these rows narrows 'for every input' (looked for: loops, veiled, ifaces, maps, wideKeys, modest, calm, conditions, laid).
  DERIVED. THE GIVEN ROWS OF THIS SEAT. 3 by the template 'for every input the law returns true; each argument reads behind the call as it read before'; 0 by the template 'total and deterministic' (their statements: YbulkcincTotals.lean).
  GIVEN WITH THE SEED: the statements are not yours to turn. If you find one false, say at which input.
  Laid BY PROGRAM, IN A SANDBOX (cutbox-rows.mjs): the forced cells as the released guide's own fill.sh prints them over the translation 1aeda49ea9e654c0… (all of the seat's roots in one cut). By AI agents, Wed Nov 11 2026. No macro, syntax, notation, axiom, sorry.
-/
import Derived.Test.YbulkcincChecked
import GoSem.Claim
import GoSem.ClaimJoined
import GoSem.ClaimMapViews
import Derived.JoinedTies
import Derived.KernelRfl
namespace Go.Proofs.Ybulkcinc
/- THE CELL 'sum', in the pinned program and in every row, IS THE sha256 OF THE DUMP (.gsa) THAT YbulkcincProg.lean LOADS. Nothing in Lean hashes anything: it is a label: what it is worth is what the hold of that sum in a sandbox is worth. -/
noncomputable def Yba.pinned : Pinned := { name := "ybulkcinc", sum := "1aeda49ea9e654c02ae3b17110a015a0a65e5749ee510a1aae985e359f097a7b", checked := Yba.checked }
namespace Rows
def none {H : Type} : Left H := { results := [], args := [] }

/-- 'crossguard.LawS4227AVerify': WHATEVER THE INPUT: true; the input reads as it did. -/
def lawS4227AVerifySpec : ChangeSpec := { name := "lawS4227AVerify", fn := fun _ => fun
  | [d1, d2, d3, d4, d5, d6, d7, d8] => { results := [.lit (.bool true)], args := [d1, d2, d3, d4, d5, d6, d7, d8] }
  | _ => none }
def lawS4227AVerifyRow : OpenClaim := { program := "ybulkcinc", sum := "1aeda49ea9e654c02ae3b17110a015a0a65e5749ee510a1aae985e359f097a7b", func := "example.com/crossguard/crossguard.LawS4227AVerify", spec := "lawS4227AVerify", apart := false }
def LawS4227AVerifySaid : Prop := lawS4227AVerifyRow.holds Yba.pinned (OpenSpec.ofChange lawS4227AVerifySpec)

/-- ITS FALSE NEIGHBOUR: 'it returns false'. Refute it at one input. -/
def lawS4227AVerifyWrong : ChangeSpec := { name := "lawS4227AVerify", fn := fun _ => fun
  | [d1, d2, d3, d4, d5, d6, d7, d8] => { results := [.lit (.bool false)], args := [d1, d2, d3, d4, d5, d6, d7, d8] }
  | _ => none }
def LawS4227AVerifyWrongFalsely : Prop := lawS4227AVerifyRow.holds Yba.pinned (OpenSpec.ofChange lawS4227AVerifyWrong)

/-- 'crossguard.LawS4227BEvents': WHATEVER THE INPUT: true; the input reads as it did. -/
def lawS4227BEventsSpec : ChangeSpec := { name := "lawS4227BEvents", fn := fun _ => fun
  | [d1, d2] => { results := [.lit (.bool true)], args := [d1, d2] }
  | _ => none }
def lawS4227BEventsRow : OpenClaim := { program := "ybulkcinc", sum := "1aeda49ea9e654c02ae3b17110a015a0a65e5749ee510a1aae985e359f097a7b", func := "example.com/crossguard/crossguard.LawS4227BEvents", spec := "lawS4227BEvents", apart := false }
def LawS4227BEventsSaid : Prop := lawS4227BEventsRow.holds Yba.pinned (OpenSpec.ofChange lawS4227BEventsSpec)

/-- ITS FALSE NEIGHBOUR: 'it returns false'. Refute it at one input. -/
def lawS4227BEventsWrong : ChangeSpec := { name := "lawS4227BEvents", fn := fun _ => fun
  | [d1, d2] => { results := [.lit (.bool false)], args := [d1, d2] }
  | _ => none }
def LawS4227BEventsWrongFalsely : Prop := lawS4227BEventsRow.holds Yba.pinned (OpenSpec.ofChange lawS4227BEventsWrong)

/-- 'crossguard.LawS4227BBook': WHATEVER THE INPUT: true; the input reads as it did. -/
def lawS4227BBookSpec : ChangeSpec := { name := "lawS4227BBook", fn := fun _ => fun
  | [d1, d2, d3, d4, d5] => { results := [.lit (.bool true)], args := [d1, d2, d3, d4, d5] }
  | _ => none }
def lawS4227BBookRow : OpenClaim := { program := "ybulkcinc", sum := "1aeda49ea9e654c02ae3b17110a015a0a65e5749ee510a1aae985e359f097a7b", func := "example.com/crossguard/crossguard.LawS4227BBook", spec := "lawS4227BBook", apart := false }
def LawS4227BBookSaid : Prop := lawS4227BBookRow.holds Yba.pinned (OpenSpec.ofChange lawS4227BBookSpec)

/-- ITS FALSE NEIGHBOUR: 'it returns false'. Refute it at one input. -/
def lawS4227BBookWrong : ChangeSpec := { name := "lawS4227BBook", fn := fun _ => fun
  | [d1, d2, d3, d4, d5] => { results := [.lit (.bool false)], args := [d1, d2, d3, d4, d5] }
  | _ => none }
def LawS4227BBookWrongFalsely : Prop := lawS4227BBookRow.holds Yba.pinned (OpenSpec.ofChange lawS4227BBookWrong)

end Rows
end Go.Proofs.Ybulkcinc
