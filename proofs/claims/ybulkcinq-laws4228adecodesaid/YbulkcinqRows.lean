/-
  No cell of these rows narrows 'for every input' (looked for: loops, veiled, ifaces, maps, wideKeys, modest, calm, conditions, laid).
  DERIVED. THE GIVEN ROWS OF THIS SEAT. 2 by the template 'for every input the law returns true; each argument reads behind the call as it read before'; 0 by the template 'total and deterministic' (their statements: YbulkcinqTotals.lean).
  GIVEN WITH THE SEED: the statements are not yours to turn. If you find one false, say at which input.
  Laid BY PROGRAM, IN A SANDBOX (cutbox-rows.mjs): the forced cells as the released guide's own fill.sh prints them over the translation 9a97039e50864023… (all of the seat's roots in one cut). By AI agents, Wed Nov 11 2026. No macro, syntax, notation, axiom, sorry.
-/
import Derived.Test.YbulkcinqChecked
import GoSem.Claim
import GoSem.ClaimJoined
import GoSem.ClaimMapViews
import Derived.JoinedTies
import Derived.KernelRfl
namespace Go.Proofs.Ybulkcinq
/- THE CELL 'sum', in the pinned program and in every row, IS THE sha256 OF THE DUMP (.gsa) THAT YbulkcinqProg.lean LOADS. Nothing in Lean hashes anything: it is a label: what it is worth is what the hold of that sum in a sandbox is worth. -/
noncomputable def Yba.pinned : Pinned := { name := "ybulkcinq", sum := "9a97039e508640239f4638fe043e076064fe6d73aa38aac7ca7b34dd9f02b733", checked := Yba.checked }
namespace Rows
def none {H : Type} : Left H := { results := [], args := [] }

/-- 'ber.LawS4228ADecode': WHATEVER THE INPUT: true; the input reads as it did. -/
def lawS4228ADecodeSpec : ChangeSpec := { name := "lawS4228ADecode", fn := fun _ => fun
  | [d1, d2] => { results := [.lit (.bool true)], args := [d1, d2] }
  | _ => none }
def lawS4228ADecodeRow : OpenClaim := { program := "ybulkcinq", sum := "9a97039e508640239f4638fe043e076064fe6d73aa38aac7ca7b34dd9f02b733", func := "example.com/shortwire/shortwire/ber.LawS4228ADecode", spec := "lawS4228ADecode", apart := false }
def LawS4228ADecodeSaid : Prop := lawS4228ADecodeRow.holds Yba.pinned (OpenSpec.ofChange lawS4228ADecodeSpec)

/-- ITS FALSE NEIGHBOUR: 'it returns false'. Refute it at one input. -/
def lawS4228ADecodeWrong : ChangeSpec := { name := "lawS4228ADecode", fn := fun _ => fun
  | [d1, d2] => { results := [.lit (.bool false)], args := [d1, d2] }
  | _ => none }
def LawS4228ADecodeWrongFalsely : Prop := lawS4228ADecodeRow.holds Yba.pinned (OpenSpec.ofChange lawS4228ADecodeWrong)

/-- 'ber.LawS4228ALength': WHATEVER THE INPUT: true; the input reads as it did. -/
def lawS4228ALengthSpec : ChangeSpec := { name := "lawS4228ALength", fn := fun _ => fun
  | [d] => { results := [.lit (.bool true)], args := [d] }
  | _ => none }
def lawS4228ALengthRow : OpenClaim := { program := "ybulkcinq", sum := "9a97039e508640239f4638fe043e076064fe6d73aa38aac7ca7b34dd9f02b733", func := "example.com/shortwire/shortwire/ber.LawS4228ALength", spec := "lawS4228ALength", apart := false }
def LawS4228ALengthSaid : Prop := lawS4228ALengthRow.holds Yba.pinned (OpenSpec.ofChange lawS4228ALengthSpec)

/-- ITS FALSE NEIGHBOUR: 'it returns false'. Refute it at one input. -/
def lawS4228ALengthWrong : ChangeSpec := { name := "lawS4228ALength", fn := fun _ => fun
  | [d] => { results := [.lit (.bool false)], args := [d] }
  | _ => none }
def LawS4228ALengthWrongFalsely : Prop := lawS4228ALengthRow.holds Yba.pinned (OpenSpec.ofChange lawS4228ALengthWrong)

end Rows
end Go.Proofs.Ybulkcinq
