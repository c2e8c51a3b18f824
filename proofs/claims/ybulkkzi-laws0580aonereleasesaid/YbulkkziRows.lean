/-
  No cell of these rows narrows 'for every input' (looked for: loops, veiled, ifaces, maps, wideKeys, modest, calm, conditions, laid).
  DERIVED. THE GIVEN ROWS OF THIS SEAT. 1 by the template 'for every input the law returns true; each argument reads behind the call as it read before'; 0 by the template 'total and deterministic' (their statements: YbulkkziTotals.lean).
  GIVEN WITH THE SEED: the statements are not yours to turn. If you find one false, say at which input.
  Laid BY PROGRAM, IN A SANDBOX (cutbox-rows.mjs): the forced cells as the released guide's own fill.sh prints them over the translation 2b154e61a7a07cd9… (all of the seat's roots in one cut). By AI agents, Wed Nov 11 2026. No macro, syntax, notation, axiom, sorry.
-/
import Derived.Test.YbulkkziChecked
import GoSem.Claim
import GoSem.ClaimJoined
import GoSem.ClaimMapViews
import Derived.JoinedTies
import Derived.KernelRfl
namespace Go.Proofs.Ybulkkzi
/- THE CELL 'sum', in the pinned program and in every row, IS THE sha256 OF THE DUMP (.gsa) THAT YbulkkziProg.lean LOADS. Nothing in Lean hashes anything: it is a label: what it is worth is what the hold of that sum in a sandbox is worth. -/
noncomputable def Yba.pinned : Pinned := { name := "ybulkkzi", sum := "2b154e61a7a07cd9f2488532db7e733e830b4f45acc966319d8a951d506fce20", checked := Yba.checked }
namespace Rows
def none {H : Type} : Left H := { results := [], args := [] }

/-- 'latchwork.LawS0580AOneRelease': WHATEVER THE INPUT: true; the input reads as it did. -/
def lawS0580AOneReleaseSpec : ChangeSpec := { name := "lawS0580AOneRelease", fn := fun _ => fun
  | [d] => { results := [.lit (.bool true)], args := [d] }
  | _ => none }
def lawS0580AOneReleaseRow : OpenClaim := { program := "ybulkkzi", sum := "2b154e61a7a07cd9f2488532db7e733e830b4f45acc966319d8a951d506fce20", func := "example.com/latchwork/latchwork.LawS0580AOneRelease", spec := "lawS0580AOneRelease", inPlace := ["sync/atomic.StoreUint64", "sync/atomic.LoadUint64", "sync/atomic.LoadPointer", "sync/atomic.CompareAndSwapUint64"], apart := false }
def LawS0580AOneReleaseSaid : Prop := lawS0580AOneReleaseRow.holds Yba.pinned (OpenSpec.ofChange lawS0580AOneReleaseSpec)

/-- ITS FALSE NEIGHBOUR: 'it returns false'. Refute it at one input. -/
def lawS0580AOneReleaseWrong : ChangeSpec := { name := "lawS0580AOneRelease", fn := fun _ => fun
  | [d] => { results := [.lit (.bool false)], args := [d] }
  | _ => none }
def LawS0580AOneReleaseWrongFalsely : Prop := lawS0580AOneReleaseRow.holds Yba.pinned (OpenSpec.ofChange lawS0580AOneReleaseWrong)

end Rows
end Go.Proofs.Ybulkkzi
