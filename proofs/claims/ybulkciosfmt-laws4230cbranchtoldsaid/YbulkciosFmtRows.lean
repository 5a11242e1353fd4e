/-
  No cell of these rows narrows 'for every input' (looked for: loops, veiled, ifaces, maps, wideKeys, modest, calm, conditions, laid).
  DERIVED. THE GIVEN ROWS OF THIS SEAT. 2 by the template 'for every input the law returns true; each argument reads behind the call as it read before'; 0 by the template 'total and deterministic' (their statements: YbulkciosFmtTotals.lean).
  GIVEN WITH THE SEED: the statements are not yours to turn. If you find one false, say at which input.
  Laid BY PROGRAM, IN A SANDBOX (cutbox-rows.mjs): the forced cells as the released guide's own fill.sh prints them over the translation 850200fa04c49889… (all of the seat's roots in one cut). By AI agents, Wed Nov 11 2026. No macro, syntax, notation, axiom, sorry.
-/
import Derived.Test.YbulkciosFmtChecked
import GoSem.Claim
import GoSem.ClaimJoined
import GoSem.ClaimMapViews
import Derived.JoinedTies
import Derived.KernelRfl
namespace Go.Proofs.YbulkciosFmt
/- THE CELL 'sum', in the pinned program and in every row, IS THE sha256 OF THE DUMP (.gsa) THAT YbulkciosFmtProg.lean LOADS. Nothing in Lean hashes anything: it is a label: what it is worth is what the hold of that sum in a sandbox is worth. -/
noncomputable def Ybaf.pinned : Pinned := { name := "ybulkciosfmt", sum := "850200fa04c49889379e5ad4752a1a6a06981ec6726e3d6e32fe233046306309", checked := Ybaf.checked }
namespace Rows
def none {H : Type} : Left H := { results := [], args := [] }

/-- 'btree.LawS4230CLeaf': WHATEVER THE INPUT: true; the input reads as it did. -/
def lawS4230CLeafSpec : ChangeSpec := { name := "lawS4230CLeaf", fn := fun _ => fun
  | [d1, d2, d3, d4, d5, d6, d7] => { results := [.lit (.bool true)], args := [d1, d2, d3, d4, d5, d6, d7] }
  | _ => none }
def lawS4230CLeafRow : OpenClaim := { program := "ybulkciosfmt", sum := "850200fa04c49889379e5ad4752a1a6a06981ec6726e3d6e32fe233046306309", func := "example.com/leafbound/leafbound/internal/btree.LawS4230CLeaf", spec := "lawS4230CLeaf", stops := ["fmt.errorf"], inPlace := ["fmt.errorf", "(*sync.RWMutex).Lock", "internal/race.Read", "internal/race.Disable", "(*internal/sync.Mutex).Lock", "sync/atomic.CompareAndSwapInt32", "internal/race.Enable", "internal/race.Acquire", "(*internal/sync.Mutex).lockSlow", "internal/sync.runtime_canSpin", "internal/sync.runtime_doSpin", "internal/sync.throw", "internal/sync.runtime_nanotime", "internal/sync.runtime_SemacquireMutex", "sync/atomic.AddInt32", "sync.runtime_SemacquireRWMutex", "(*sync.RWMutex).Unlock", "internal/race.Release", "internal/race.ReleaseMerge", "sync.fatal", "sync.runtime_Semrelease", "(*internal/sync.Mutex).Unlock", "(*internal/sync.Mutex).unlockSlow", "internal/sync.fatal", "internal/sync.runtime_Semrelease"], unfollowed := true, recurses := true, named := ["encoding/binary.LittleEndian"], apart := false }
/-- NO THEOREM (fmt's text is open here; it may be false): for the released tool's asking of the row's closed facts alone. THE STATEMENT IS 'LawS4230CLeafToldSaid' (YbulkciosFmtCards.lean). -/
def LawS4230CLeafFormAsk : Prop := lawS4230CLeafRow.holds Ybaf.pinned (OpenSpec.ofChange lawS4230CLeafSpec)

/-- ITS FALSE NEIGHBOUR: 'it returns false'. Refute it at one input. -/
def lawS4230CLeafWrong : ChangeSpec := { name := "lawS4230CLeaf", fn := fun _ => fun
  | [d1, d2, d3, d4, d5, d6, d7] => { results := [.lit (.bool false)], args := [d1, d2, d3, d4, d5, d6, d7] }
  | _ => none }
def LawS4230CLeafWrongFormAsk : Prop := lawS4230CLeafRow.holds Ybaf.pinned (OpenSpec.ofChange lawS4230CLeafWrong)

/-- 'btree.LawS4230CBranch': WHATEVER THE INPUT: true; the input reads as it did. -/
def lawS4230CBranchSpec : ChangeSpec := { name := "lawS4230CBranch", fn := fun _ => fun
  | [d1, d2, d3] => { results := [.lit (.bool true)], args := [d1, d2, d3] }
  | _ => none }
def lawS4230CBranchRow : OpenClaim := { program := "ybulkciosfmt", sum := "850200fa04c49889379e5ad4752a1a6a06981ec6726e3d6e32fe233046306309", func := "example.com/leafbound/leafbound/internal/btree.LawS4230CBranch", spec := "lawS4230CBranch", stops := ["fmt.errorf"], inPlace := ["fmt.errorf", "(*sync.RWMutex).Lock", "internal/race.Read", "internal/race.Disable", "(*internal/sync.Mutex).Lock", "sync/atomic.CompareAndSwapInt32", "internal/race.Enable", "internal/race.Acquire", "(*internal/sync.Mutex).lockSlow", "internal/sync.runtime_canSpin", "internal/sync.runtime_doSpin", "internal/sync.throw", "internal/sync.runtime_nanotime", "internal/sync.runtime_SemacquireMutex", "sync/atomic.AddInt32", "sync.runtime_SemacquireRWMutex", "(*sync.RWMutex).Unlock", "internal/race.Release", "internal/race.ReleaseMerge", "sync.fatal", "sync.runtime_Semrelease", "(*internal/sync.Mutex).Unlock", "(*internal/sync.Mutex).unlockSlow", "internal/sync.fatal", "internal/sync.runtime_Semrelease"], unfollowed := true, recurses := true, named := ["encoding/binary.LittleEndian"], apart := false }
/-- NO THEOREM (fmt's text is open here; it may be false): for the released tool's asking of the row's closed facts alone. THE STATEMENT IS 'LawS4230CBranchToldSaid' (YbulkciosFmtCards.lean). -/
def LawS4230CBranchFormAsk : Prop := lawS4230CBranchRow.holds Ybaf.pinned (OpenSpec.ofChange lawS4230CBranchSpec)

/-- ITS FALSE NEIGHBOUR: 'it returns false'. Refute it at one input. -/
def lawS4230CBranchWrong : ChangeSpec := { name := "lawS4230CBranch", fn := fun _ => fun
  | [d1, d2, d3] => { results := [.lit (.bool false)], args := [d1, d2, d3] }
  | _ => none }
def LawS4230CBranchWrongFormAsk : Prop := lawS4230CBranchRow.holds Ybaf.pinned (OpenSpec.ofChange lawS4230CBranchWrong)

end Rows
end Go.Proofs.YbulkciosFmt
