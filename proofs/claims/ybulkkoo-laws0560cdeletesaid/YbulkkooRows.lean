/-
  NARROWER THAN 'FOR EVERY INPUT', by the rows' own cells (each row's printed sentence says how): LawS0560BIndex: maps.
  DERIVED. THE GIVEN ROWS OF THIS SEAT. 7 by the template 'for every input the law returns true; each argument reads behind the call as it read before'; 0 by the template 'total and deterministic' (their statements: YbulkkooTotals.lean).
  GIVEN WITH THE SEED: the statements are not yours to turn. If you find one false, say at which input.
  Laid BY PROGRAM, IN A SANDBOX (cutbox-rows.mjs): the forced cells as the released guide's own fill.sh prints them over the translation f176317645084e9c… (all of the seat's roots in one cut). By AI agents, Wed Nov 11 2026. No macro, syntax, notation, axiom, sorry.
-/
import Derived.Test.YbulkkooChecked
import GoSem.Claim
import GoSem.ClaimJoined
import GoSem.ClaimMapViews
import Derived.JoinedTies
import Derived.KernelRfl
namespace Go.Proofs.Ybulkkoo
/- THE CELL 'sum', in the pinned program and in every row, IS THE sha256 OF THE DUMP (.gsa) THAT YbulkkooProg.lean LOADS. Nothing in Lean hashes anything: it is a label: what it is worth is what the hold of that sum in a sandbox is worth. -/
noncomputable def Yba.pinned : Pinned := { name := "ybulkkoo", sum := "f176317645084e9c1acf479fef3b6a362e8847d3a72a2a649c0630543e2b7e18", checked := Yba.checked }
namespace Rows
def none {H : Type} : Left H := { results := [], args := [] }

/-- 'unification.LawS0560AHeap': WHATEVER THE INPUT: true; the input reads as it did. -/
def lawS0560AHeapSpec : ChangeSpec := { name := "lawS0560AHeap", fn := fun _ => fun
  | [d] => { results := [.lit (.bool true)], args := [d] }
  | _ => none }
def lawS0560AHeapRow : OpenClaim := { program := "ybulkkoo", sum := "f176317645084e9c1acf479fef3b6a362e8847d3a72a2a649c0630543e2b7e18", func := "example.com/nano-notation/nano-notation/internal/unification.LawS0560AHeap", spec := "lawS0560AHeap", apart := false }
def LawS0560AHeapSaid : Prop := lawS0560AHeapRow.holds Yba.pinned (OpenSpec.ofChange lawS0560AHeapSpec)

/-- ITS FALSE NEIGHBOUR: 'it returns false'. Refute it at one input. -/
def lawS0560AHeapWrong : ChangeSpec := { name := "lawS0560AHeap", fn := fun _ => fun
  | [d] => { results := [.lit (.bool false)], args := [d] }
  | _ => none }
def LawS0560AHeapWrongFalsely : Prop := lawS0560AHeapRow.holds Yba.pinned (OpenSpec.ofChange lawS0560AHeapWrong)

/-- 'unification.LawS0560AFirstLeast': WHATEVER THE INPUT: true; the input reads as it did. -/
def lawS0560AFirstLeastSpec : ChangeSpec := { name := "lawS0560AFirstLeast", fn := fun _ => fun
  | [d] => { results := [.lit (.bool true)], args := [d] }
  | _ => none }
def lawS0560AFirstLeastRow : OpenClaim := { program := "ybulkkoo", sum := "f176317645084e9c1acf479fef3b6a362e8847d3a72a2a649c0630543e2b7e18", func := "example.com/nano-notation/nano-notation/internal/unification.LawS0560AFirstLeast", spec := "lawS0560AFirstLeast", apart := false }
def LawS0560AFirstLeastSaid : Prop := lawS0560AFirstLeastRow.holds Yba.pinned (OpenSpec.ofChange lawS0560AFirstLeastSpec)

/-- ITS FALSE NEIGHBOUR: 'it returns false'. Refute it at one input. -/
def lawS0560AFirstLeastWrong : ChangeSpec := { name := "lawS0560AFirstLeast", fn := fun _ => fun
  | [d] => { results := [.lit (.bool false)], args := [d] }
  | _ => none }
def LawS0560AFirstLeastWrongFalsely : Prop := lawS0560AFirstLeastRow.holds Yba.pinned (OpenSpec.ofChange lawS0560AFirstLeastWrong)

/-- 'pool.LawS0560BScan': WHATEVER THE INPUT: true; the input reads as it did. -/
def lawS0560BScanSpec : ChangeSpec := { name := "lawS0560BScan", fn := fun _ => fun
  | [d1, d2] => { results := [.lit (.bool true)], args := [d1, d2] }
  | _ => none }
def lawS0560BScanRow : OpenClaim := { program := "ybulkkoo", sum := "f176317645084e9c1acf479fef3b6a362e8847d3a72a2a649c0630543e2b7e18", func := "example.com/nano-notation/nano-notation/pool.LawS0560BScan", spec := "lawS0560BScan", apart := false }
def LawS0560BScanSaid : Prop := lawS0560BScanRow.holds Yba.pinned (OpenSpec.ofChange lawS0560BScanSpec)

/-- ITS FALSE NEIGHBOUR: 'it returns false'. Refute it at one input. -/
def lawS0560BScanWrong : ChangeSpec := { name := "lawS0560BScan", fn := fun _ => fun
  | [d1, d2] => { results := [.lit (.bool false)], args := [d1, d2] }
  | _ => none }
def LawS0560BScanWrongFalsely : Prop := lawS0560BScanRow.holds Yba.pinned (OpenSpec.ofChange lawS0560BScanWrong)

/-- 'pool.LawS0560BIndex': WHATEVER THE INPUT: true; the input reads as it did. -/
def lawS0560BIndexSpec : ChangeSpec := { name := "lawS0560BIndex", fn := fun _ => fun
  | [d1, d2, d3] => { results := [.lit (.bool true)], args := [d1, d2, d3] }
  | _ => none }
def lawS0560BIndexRow : OpenClaim := { program := "ybulkkoo", sum := "f176317645084e9c1acf479fef3b6a362e8847d3a72a2a649c0630543e2b7e18", func := "example.com/nano-notation/nano-notation/pool.LawS0560BIndex", spec := "lawS0560BIndex", maps := true, apart := false }
def LawS0560BIndexSaid : Prop := lawS0560BIndexRow.holds Yba.pinned (OpenSpec.ofChange lawS0560BIndexSpec)

/-- ITS FALSE NEIGHBOUR: 'it returns false'. Refute it at one input. -/
def lawS0560BIndexWrong : ChangeSpec := { name := "lawS0560BIndex", fn := fun _ => fun
  | [d1, d2, d3] => { results := [.lit (.bool false)], args := [d1, d2, d3] }
  | _ => none }
def LawS0560BIndexWrongFalsely : Prop := lawS0560BIndexRow.holds Yba.pinned (OpenSpec.ofChange lawS0560BIndexWrong)

/-- 'pool.LawS0560BAgree': WHATEVER THE INPUT: true; the input reads as it did. -/
def lawS0560BAgreeSpec : ChangeSpec := { name := "lawS0560BAgree", fn := fun _ => fun
  | [d1, d2] => { results := [.lit (.bool true)], args := [d1, d2] }
  | _ => none }
def lawS0560BAgreeRow : OpenClaim := { program := "ybulkkoo", sum := "f176317645084e9c1acf479fef3b6a362e8847d3a72a2a649c0630543e2b7e18", func := "example.com/nano-notation/nano-notation/pool.LawS0560BAgree", spec := "lawS0560BAgree", apart := false }
def LawS0560BAgreeSaid : Prop := lawS0560BAgreeRow.holds Yba.pinned (OpenSpec.ofChange lawS0560BAgreeSpec)

/-- ITS FALSE NEIGHBOUR: 'it returns false'. Refute it at one input. -/
def lawS0560BAgreeWrong : ChangeSpec := { name := "lawS0560BAgree", fn := fun _ => fun
  | [d1, d2] => { results := [.lit (.bool false)], args := [d1, d2] }
  | _ => none }
def LawS0560BAgreeWrongFalsely : Prop := lawS0560BAgreeRow.holds Yba.pinned (OpenSpec.ofChange lawS0560BAgreeWrong)

/-- 'unification.LawS0560CDelete': WHATEVER THE INPUT: true; the input reads as it did. -/
def lawS0560CDeleteSpec : ChangeSpec := { name := "lawS0560CDelete", fn := fun _ => fun
  | [d1, d2, d3] => { results := [.lit (.bool true)], args := [d1, d2, d3] }
  | _ => none }
def lawS0560CDeleteRow : OpenClaim := { program := "ybulkkoo", sum := "f176317645084e9c1acf479fef3b6a362e8847d3a72a2a649c0630543e2b7e18", func := "example.com/nano-notation/nano-notation/internal/unification.LawS0560CDelete", spec := "lawS0560CDelete", apart := false }
def LawS0560CDeleteSaid : Prop := lawS0560CDeleteRow.holds Yba.pinned (OpenSpec.ofChange lawS0560CDeleteSpec)

/-- ITS FALSE NEIGHBOUR: 'it returns false'. Refute it at one input. -/
def lawS0560CDeleteWrong : ChangeSpec := { name := "lawS0560CDelete", fn := fun _ => fun
  | [d1, d2, d3] => { results := [.lit (.bool false)], args := [d1, d2, d3] }
  | _ => none }
def LawS0560CDeleteWrongFalsely : Prop := lawS0560CDeleteRow.holds Yba.pinned (OpenSpec.ofChange lawS0560CDeleteWrong)

/-- 'unification.LawS0560CReach': WHATEVER THE INPUT: true; the input reads as it did. -/
def lawS0560CReachSpec : ChangeSpec := { name := "lawS0560CReach", fn := fun _ => fun
  | [d1, d2, d3] => { results := [.lit (.bool true)], args := [d1, d2, d3] }
  | _ => none }
def lawS0560CReachRow : OpenClaim := { program := "ybulkkoo", sum := "f176317645084e9c1acf479fef3b6a362e8847d3a72a2a649c0630543e2b7e18", func := "example.com/nano-notation/nano-notation/internal/unification.LawS0560CReach", spec := "lawS0560CReach", apart := false }
def LawS0560CReachSaid : Prop := lawS0560CReachRow.holds Yba.pinned (OpenSpec.ofChange lawS0560CReachSpec)

/-- ITS FALSE NEIGHBOUR: 'it returns false'. Refute it at one input. -/
def lawS0560CReachWrong : ChangeSpec := { name := "lawS0560CReach", fn := fun _ => fun
  | [d1, d2, d3] => { results := [.lit (.bool false)], args := [d1, d2, d3] }
  | _ => none }
def LawS0560CReachWrongFalsely : Prop := lawS0560CReachRow.holds Yba.pinned (OpenSpec.ofChange lawS0560CReachWrong)

end Rows
end Go.Proofs.Ybulkkoo
