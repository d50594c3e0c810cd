/-
  No cell of these rows narrows 'for every input' (looked for: loops, veiled, ifaces, maps, wideKeys, modest, calm, conditions, laid).
  DERIVED. THE GIVEN ROWS OF THIS SEAT. 4 by the template 'for every input the law returns true; each argument reads behind the call as it read before'; 0 by the template 'total and deterministic' (their statements: YbulkboyuTotals.lean).
  GIVEN WITH THE SEED: the statements are not yours to turn. If you find one false, say at which input.
  Laid BY PROGRAM, IN A SANDBOX (cutbox-rows.mjs): the forced cells as the released guide's own fill.sh prints them over the translation cd774fe69e48043f… (all of the seat's roots in one cut). By AI agents, Wed Nov 11 2026. No macro, syntax, notation, axiom, sorry.
-/
import Derived.Test.YbulkboyuChecked
import GoSem.Claim
import GoSem.ClaimJoined
import GoSem.ClaimMapViews
import Derived.JoinedTies
import Derived.KernelRfl
namespace Go.Proofs.Ybulkboyu
/- THE CELL 'sum', in the pinned program and in every row, IS THE sha256 OF THE DUMP (.gsa) THAT YbulkboyuProg.lean LOADS. Nothing in Lean hashes anything: it is a label: what it is worth is what the hold of that sum in a sandbox is worth. -/
noncomputable def Yba.pinned : Pinned := { name := "ybulkboyu", sum := "cd774fe69e48043fc9e2288c4742ba667ff368841a0fffcd78d879404d4f6f92", checked := Yba.checked }
namespace Rows
def none {H : Type} : Left H := { results := [], args := [] }

/-- 'explore.LawS3283ASCC': WHATEVER THE INPUT: true; the input reads as it did. -/
def lawS3283ASCCSpec : ChangeSpec := { name := "lawS3283ASCC", fn := fun _ => fun
  | [d] => { results := [.lit (.bool true)], args := [d] }
  | _ => none }
def lawS3283ASCCRow : OpenClaim := { program := "ybulkboyu", sum := "cd774fe69e48043fc9e2288c4742ba667ff368841a0fffcd78d879404d4f6f92", func := "example.com/antecede/antecede/internal/explore.LawS3283ASCC", spec := "lawS3283ASCC", unfollowed := true, recurses := true, apart := false }
def LawS3283ASCCSaid : Prop := lawS3283ASCCRow.holds Yba.pinned (OpenSpec.ofChange lawS3283ASCCSpec)

/-- ITS FALSE NEIGHBOUR: 'it returns false'. Refute it at one input. -/
def lawS3283ASCCWrong : ChangeSpec := { name := "lawS3283ASCC", fn := fun _ => fun
  | [d] => { results := [.lit (.bool false)], args := [d] }
  | _ => none }
def LawS3283ASCCWrongFalsely : Prop := lawS3283ASCCRow.holds Yba.pinned (OpenSpec.ofChange lawS3283ASCCWrong)

/-- 'code.LawS3283BAll': WHATEVER THE INPUT: true; the input reads as it did. -/
def lawS3283BAllSpec : ChangeSpec := { name := "lawS3283BAll", fn := fun _ => fun
  | [d] => { results := [.lit (.bool true)], args := [d] }
  | _ => none }
def lawS3283BAllRow : OpenClaim := { program := "ybulkboyu", sum := "cd774fe69e48043fc9e2288c4742ba667ff368841a0fffcd78d879404d4f6f92", func := "example.com/antecede/antecede/internal/code.LawS3283BAll", spec := "lawS3283BAll", apart := false }
def LawS3283BAllSaid : Prop := lawS3283BAllRow.holds Yba.pinned (OpenSpec.ofChange lawS3283BAllSpec)

/-- ITS FALSE NEIGHBOUR: 'it returns false'. Refute it at one input. -/
def lawS3283BAllWrong : ChangeSpec := { name := "lawS3283BAll", fn := fun _ => fun
  | [d] => { results := [.lit (.bool false)], args := [d] }
  | _ => none }
def LawS3283BAllWrongFalsely : Prop := lawS3283BAllRow.holds Yba.pinned (OpenSpec.ofChange lawS3283BAllWrong)

/-- 'code.LawS3283BNamed': WHATEVER THE INPUT: true; the input reads as it did. -/
def lawS3283BNamedSpec : ChangeSpec := { name := "lawS3283BNamed", fn := fun _ => fun
  | [d] => { results := [.lit (.bool true)], args := [d] }
  | _ => none }
def lawS3283BNamedRow : OpenClaim := { program := "ybulkboyu", sum := "cd774fe69e48043fc9e2288c4742ba667ff368841a0fffcd78d879404d4f6f92", func := "example.com/antecede/antecede/internal/code.LawS3283BNamed", spec := "lawS3283BNamed", apart := false }
def LawS3283BNamedSaid : Prop := lawS3283BNamedRow.holds Yba.pinned (OpenSpec.ofChange lawS3283BNamedSpec)

/-- ITS FALSE NEIGHBOUR: 'it returns false'. Refute it at one input. -/
def lawS3283BNamedWrong : ChangeSpec := { name := "lawS3283BNamed", fn := fun _ => fun
  | [d] => { results := [.lit (.bool false)], args := [d] }
  | _ => none }
def LawS3283BNamedWrongFalsely : Prop := lawS3283BNamedRow.holds Yba.pinned (OpenSpec.ofChange lawS3283BNamedWrong)

/-- 'explore.LawS3283CHanded': WHATEVER THE INPUT: true; the input reads as it did. -/
def lawS3283CHandedSpec : ChangeSpec := { name := "lawS3283CHanded", fn := fun _ => fun
  | [d1, d2, d3, d4, d5, d6, d7, d8, d9, d10] => { results := [.lit (.bool true)], args := [d1, d2, d3, d4, d5, d6, d7, d8, d9, d10] }
  | _ => none }
def lawS3283CHandedRow : OpenClaim := { program := "ybulkboyu", sum := "cd774fe69e48043fc9e2288c4742ba667ff368841a0fffcd78d879404d4f6f92", func := "example.com/antecede/antecede/internal/explore.LawS3283CHanded", spec := "lawS3283CHanded", apart := false }
def LawS3283CHandedSaid : Prop := lawS3283CHandedRow.holds Yba.pinned (OpenSpec.ofChange lawS3283CHandedSpec)

/-- ITS FALSE NEIGHBOUR: 'it returns false'. Refute it at one input. -/
def lawS3283CHandedWrong : ChangeSpec := { name := "lawS3283CHanded", fn := fun _ => fun
  | [d1, d2, d3, d4, d5, d6, d7, d8, d9, d10] => { results := [.lit (.bool false)], args := [d1, d2, d3, d4, d5, d6, d7, d8, d9, d10] }
  | _ => none }
def LawS3283CHandedWrongFalsely : Prop := lawS3283CHandedRow.holds Yba.pinned (OpenSpec.ofChange lawS3283CHandedWrong)

end Rows
end Go.Proofs.Ybulkboyu
