/-
  No cell of these rows narrows 'for every input' (looked for: loops, veiled, ifaces, maps, wideKeys, modest, calm, conditions, laid).
  DERIVED. THE GIVEN ROWS OF THIS SEAT. 3 by the template 'for every input the law returns true; each argument reads behind the call as it read before'; 0 by the template 'total and deterministic' (their statements: YbulkkvaTotals.lean).
  GIVEN WITH THE SEED: the statements are not yours to turn. If you find one false, say at which input.
  Laid BY PROGRAM, IN A SANDBOX (cutbox-rows.mjs): the forced cells as the released guide's own fill.sh prints them over the translation d3ab006434524f76… (all of the seat's roots in one cut). By AI agents, Wed Nov 11 2026. No macro, syntax, notation, axiom, sorry.
-/
import Derived.Test.YbulkkvaChecked
import GoSem.Claim
import GoSem.ClaimJoined
import GoSem.ClaimMapViews
import Derived.JoinedTies
import Derived.KernelRfl
namespace Go.Proofs.Ybulkkva
/- THE CELL 'sum', in the pinned program and in every row, IS THE sha256 OF THE DUMP (.gsa) THAT YbulkkvaProg.lean LOADS. Nothing in Lean hashes anything: it is a label: what it is worth is what the hold of that sum in a sandbox is worth. -/
noncomputable def Yba.pinned : Pinned := { name := "ybulkkva", sum := "d3ab006434524f7649974fe11a1fa47f40697fa546254491cc5606d18dc9be6c", checked := Yba.checked }
namespace Rows
def none {H : Type} : Left H := { results := [], args := [] }

/-- 'header.LawS0572BByte': WHATEVER THE INPUT: true; the input reads as it did. -/
def lawS0572BByteSpec : ChangeSpec := { name := "lawS0572BByte", fn := fun _ => fun
  | [d1, d2] => { results := [.lit (.bool true)], args := [d1, d2] }
  | _ => none }
def lawS0572BByteRow : OpenClaim := { program := "ybulkkva", sum := "d3ab006434524f7649974fe11a1fa47f40697fa546254491cc5606d18dc9be6c", func := "example.com/rocl/rocl/internal/header.LawS0572BByte", spec := "lawS0572BByte", apart := false }
def LawS0572BByteSaid : Prop := lawS0572BByteRow.holds Yba.pinned (OpenSpec.ofChange lawS0572BByteSpec)

/-- ITS FALSE NEIGHBOUR: 'it returns false'. Refute it at one input. -/
def lawS0572BByteWrong : ChangeSpec := { name := "lawS0572BByte", fn := fun _ => fun
  | [d1, d2] => { results := [.lit (.bool false)], args := [d1, d2] }
  | _ => none }
def LawS0572BByteWrongFalsely : Prop := lawS0572BByteRow.holds Yba.pinned (OpenSpec.ofChange lawS0572BByteWrong)

/-- 'header.LawS0572BEveryPlace': WHATEVER THE INPUT: true; the input reads as it did. -/
def lawS0572BEveryPlaceSpec : ChangeSpec := { name := "lawS0572BEveryPlace", fn := fun _ => fun
  | [d] => { results := [.lit (.bool true)], args := [d] }
  | _ => none }
def lawS0572BEveryPlaceRow : OpenClaim := { program := "ybulkkva", sum := "d3ab006434524f7649974fe11a1fa47f40697fa546254491cc5606d18dc9be6c", func := "example.com/rocl/rocl/internal/header.LawS0572BEveryPlace", spec := "lawS0572BEveryPlace", apart := false }
def LawS0572BEveryPlaceSaid : Prop := lawS0572BEveryPlaceRow.holds Yba.pinned (OpenSpec.ofChange lawS0572BEveryPlaceSpec)

/-- ITS FALSE NEIGHBOUR: 'it returns false'. Refute it at one input. -/
def lawS0572BEveryPlaceWrong : ChangeSpec := { name := "lawS0572BEveryPlace", fn := fun _ => fun
  | [d] => { results := [.lit (.bool false)], args := [d] }
  | _ => none }
def LawS0572BEveryPlaceWrongFalsely : Prop := lawS0572BEveryPlaceRow.holds Yba.pinned (OpenSpec.ofChange lawS0572BEveryPlaceWrong)

/-- 'genrepo.LawS0572CJoin': WHATEVER THE INPUT: true; the input reads as it did. -/
def lawS0572CJoinSpec : ChangeSpec := { name := "lawS0572CJoin", fn := fun _ => fun
  | [d1, d2, d3, d4] => { results := [.lit (.bool true)], args := [d1, d2, d3, d4] }
  | _ => none }
def lawS0572CJoinRow : OpenClaim := { program := "ybulkkva", sum := "d3ab006434524f7649974fe11a1fa47f40697fa546254491cc5606d18dc9be6c", func := "example.com/rocl/rocl/internal/genrepo.LawS0572CJoin", spec := "lawS0572CJoin", unfollowed := true, recurses := true, apart := false }
def LawS0572CJoinSaid : Prop := lawS0572CJoinRow.holds Yba.pinned (OpenSpec.ofChange lawS0572CJoinSpec)

/-- ITS FALSE NEIGHBOUR: 'it returns false'. Refute it at one input. -/
def lawS0572CJoinWrong : ChangeSpec := { name := "lawS0572CJoin", fn := fun _ => fun
  | [d1, d2, d3, d4] => { results := [.lit (.bool false)], args := [d1, d2, d3, d4] }
  | _ => none }
def LawS0572CJoinWrongFalsely : Prop := lawS0572CJoinRow.holds Yba.pinned (OpenSpec.ofChange lawS0572CJoinWrong)

end Rows
end Go.Proofs.Ybulkkva
