/-
  No cell of these rows narrows 'for every input' (looked for: loops, veiled, ifaces, maps, wideKeys, modest, calm, conditions, laid).
  DERIVED. THE GIVEN ROWS OF THIS SEAT. 4 by the template 'for every input the law returns true; each argument reads behind the call as it read before'; 0 by the template 'total and deterministic' (their statements: YbulkbpbmTotals.lean).
  GIVEN WITH THE SEED: the statements are not yours to turn. If you find one false, say at which input.
  Laid BY PROGRAM, IN A SANDBOX (cutbox-rows.mjs): the forced cells as the released guide's own fill.sh prints them over the translation dee1a52be0b56ac2… (all of the seat's roots in one cut). By AI agents, Wed Nov 11 2026. No macro, syntax, notation, axiom, sorry.
-/
import Derived.Test.YbulkbpbmChecked
import GoSem.Claim
import GoSem.ClaimJoined
import GoSem.ClaimMapViews
import Derived.JoinedTies
import Derived.KernelRfl
namespace Go.Proofs.Ybulkbpbm
/- THE CELL 'sum', in the pinned program and in every row, IS THE sha256 OF THE DUMP (.gsa) THAT YbulkbpbmProg.lean LOADS. Nothing in Lean hashes anything: it is a label: what it is worth is what the hold of that sum in a sandbox is worth. -/
noncomputable def Yba.pinned : Pinned := { name := "ybulkbpbm", sum := "dee1a52be0b56ac29c329b4df31f6d269411867473acad19017ac5fc7d78a96c", checked := Yba.checked }
namespace Rows
def none {H : Type} : Left H := { results := [], args := [] }

/-- 'sched.LawS3288APopLast': WHATEVER THE INPUT: true; the input reads as it did. -/
def lawS3288APopLastSpec : ChangeSpec := { name := "lawS3288APopLast", fn := fun _ => fun
  | [d] => { results := [.lit (.bool true)], args := [d] }
  | _ => none }
def lawS3288APopLastRow : OpenClaim := { program := "ybulkbpbm", sum := "dee1a52be0b56ac29c329b4df31f6d269411867473acad19017ac5fc7d78a96c", func := "example.com/quern/quern/pkg/sched.LawS3288APopLast", spec := "lawS3288APopLast", inPlace := ["math.Float64bits"], apart := false }
def LawS3288APopLastSaid : Prop := lawS3288APopLastRow.holds Yba.pinned (OpenSpec.ofChange lawS3288APopLastSpec)

/-- ITS FALSE NEIGHBOUR: 'it returns false'. Refute it at one input. -/
def lawS3288APopLastWrong : ChangeSpec := { name := "lawS3288APopLast", fn := fun _ => fun
  | [d] => { results := [.lit (.bool false)], args := [d] }
  | _ => none }
def LawS3288APopLastWrongFalsely : Prop := lawS3288APopLastRow.holds Yba.pinned (OpenSpec.ofChange lawS3288APopLastWrong)

/-- 'sched.LawS3288AHeapSorts': WHATEVER THE INPUT: true; the input reads as it did. -/
def lawS3288AHeapSortsSpec : ChangeSpec := { name := "lawS3288AHeapSorts", fn := fun _ => fun
  | [d] => { results := [.lit (.bool true)], args := [d] }
  | _ => none }
def lawS3288AHeapSortsRow : OpenClaim := { program := "ybulkbpbm", sum := "dee1a52be0b56ac29c329b4df31f6d269411867473acad19017ac5fc7d78a96c", func := "example.com/quern/quern/pkg/sched.LawS3288AHeapSorts", spec := "lawS3288AHeapSorts", unfollowed := true, recurses := true, apart := false }
def LawS3288AHeapSortsSaid : Prop := lawS3288AHeapSortsRow.holds Yba.pinned (OpenSpec.ofChange lawS3288AHeapSortsSpec)

/-- ITS FALSE NEIGHBOUR: 'it returns false'. Refute it at one input. -/
def lawS3288AHeapSortsWrong : ChangeSpec := { name := "lawS3288AHeapSorts", fn := fun _ => fun
  | [d] => { results := [.lit (.bool false)], args := [d] }
  | _ => none }
def LawS3288AHeapSortsWrongFalsely : Prop := lawS3288AHeapSortsRow.holds Yba.pinned (OpenSpec.ofChange lawS3288AHeapSortsWrong)

/-- 'sched.LawS3288CNear': WHATEVER THE INPUT: true; the input reads as it did. -/
def lawS3288CNearSpec : ChangeSpec := { name := "lawS3288CNear", fn := fun _ => fun
  | [d1, d2] => { results := [.lit (.bool true)], args := [d1, d2] }
  | _ => none }
def lawS3288CNearRow : OpenClaim := { program := "ybulkbpbm", sum := "dee1a52be0b56ac29c329b4df31f6d269411867473acad19017ac5fc7d78a96c", func := "example.com/quern/quern/pkg/sched.LawS3288CNear", spec := "lawS3288CNear", inPlace := ["math.Float64bits", "math.Float64frombits"], apart := false }
def LawS3288CNearSaid : Prop := lawS3288CNearRow.holds Yba.pinned (OpenSpec.ofChange lawS3288CNearSpec)

/-- ITS FALSE NEIGHBOUR: 'it returns false'. Refute it at one input. -/
def lawS3288CNearWrong : ChangeSpec := { name := "lawS3288CNear", fn := fun _ => fun
  | [d1, d2] => { results := [.lit (.bool false)], args := [d1, d2] }
  | _ => none }
def LawS3288CNearWrongFalsely : Prop := lawS3288CNearRow.holds Yba.pinned (OpenSpec.ofChange lawS3288CNearWrong)

/-- 'sched.LawS3288CFar': WHATEVER THE INPUT: true; the input reads as it did. -/
def lawS3288CFarSpec : ChangeSpec := { name := "lawS3288CFar", fn := fun _ => fun
  | [d] => { results := [.lit (.bool true)], args := [d] }
  | _ => none }
def lawS3288CFarRow : OpenClaim := { program := "ybulkbpbm", sum := "dee1a52be0b56ac29c329b4df31f6d269411867473acad19017ac5fc7d78a96c", func := "example.com/quern/quern/pkg/sched.LawS3288CFar", spec := "lawS3288CFar", inPlace := ["math.Float64bits", "math.Float64frombits"], apart := false }
def LawS3288CFarSaid : Prop := lawS3288CFarRow.holds Yba.pinned (OpenSpec.ofChange lawS3288CFarSpec)

/-- ITS FALSE NEIGHBOUR: 'it returns false'. Refute it at one input. -/
def lawS3288CFarWrong : ChangeSpec := { name := "lawS3288CFar", fn := fun _ => fun
  | [d] => { results := [.lit (.bool false)], args := [d] }
  | _ => none }
def LawS3288CFarWrongFalsely : Prop := lawS3288CFarRow.holds Yba.pinned (OpenSpec.ofChange lawS3288CFarWrong)

end Rows
end Go.Proofs.Ybulkbpbm
