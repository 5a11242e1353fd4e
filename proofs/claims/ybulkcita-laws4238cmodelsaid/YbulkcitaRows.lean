/-
  No cell of these rows narrows 'for every input' (looked for: loops, veiled, ifaces, maps, wideKeys, modest, calm, conditions, laid).
  DERIVED. THE GIVEN ROWS OF THIS SEAT. 1 by the template 'for every input the law returns true; each argument reads behind the call as it read before'; 0 by the template 'total and deterministic' (their statements: YbulkcitaTotals.lean).
  GIVEN WITH THE SEED: the statements are not yours to turn. If you find one false, say at which input.
  Laid BY PROGRAM, IN A SANDBOX (cutbox-rows.mjs): the forced cells as the released guide's own fill.sh prints them over the translation 3c3ab644b69071ab… (all of the seat's roots in one cut). By AI agents, Wed Nov 11 2026. No macro, syntax, notation, axiom, sorry.
-/
import Derived.Test.YbulkcitaChecked
import GoSem.Claim
import GoSem.ClaimJoined
import GoSem.ClaimMapViews
import Derived.JoinedTies
import Derived.KernelRfl
namespace Go.Proofs.Ybulkcita
/- THE CELL 'sum', in the pinned program and in every row, IS THE sha256 OF THE DUMP (.gsa) THAT YbulkcitaProg.lean LOADS. Nothing in Lean hashes anything: it is a label: what it is worth is what the hold of that sum in a sandbox is worth. -/
noncomputable def Yba.pinned : Pinned := { name := "ybulkcita", sum := "3c3ab644b69071ab56becd515288934442e5f150294d554cf973b75cb2d1f131", checked := Yba.checked }
namespace Rows
def none {H : Type} : Left H := { results := [], args := [] }

/-- 'rules.LawS4238CModel': WHATEVER THE INPUT: true; the input reads as it did. -/
def lawS4238CModelSpec : ChangeSpec := { name := "lawS4238CModel", fn := fun _ => fun
  | [d1, d2] => { results := [.lit (.bool true)], args := [d1, d2] }
  | _ => none }
def lawS4238CModelRow : OpenClaim := { program := "ybulkcita", sum := "3c3ab644b69071ab56becd515288934442e5f150294d554cf973b75cb2d1f131", func := "example.com/mended-fence/mended-fence/rules.LawS4238CModel", spec := "lawS4238CModel", plainKeys := false, apart := false }
def LawS4238CModelSaid : Prop := lawS4238CModelRow.holds Yba.pinned (OpenSpec.ofChange lawS4238CModelSpec)

/-- ITS FALSE NEIGHBOUR: 'it returns false'. Refute it at one input. -/
def lawS4238CModelWrong : ChangeSpec := { name := "lawS4238CModel", fn := fun _ => fun
  | [d1, d2] => { results := [.lit (.bool false)], args := [d1, d2] }
  | _ => none }
def LawS4238CModelWrongFalsely : Prop := lawS4238CModelRow.holds Yba.pinned (OpenSpec.ofChange lawS4238CModelWrong)

end Rows
end Go.Proofs.Ybulkcita
