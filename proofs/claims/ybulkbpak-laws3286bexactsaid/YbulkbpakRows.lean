/-
  No cell of these rows narrows 'for every input' (looked for: loops, veiled, ifaces, maps, wideKeys, modest, calm, conditions, laid).
  DERIVED. THE GIVEN ROWS OF THIS SEAT. 1 by the template 'for every input the law returns true; each argument reads behind the call as it read before'; 0 by the template 'total and deterministic' (their statements: YbulkbpakTotals.lean).
  GIVEN WITH THE SEED: the statements are not yours to turn. If you find one false, say at which input.
  Laid BY PROGRAM, IN A SANDBOX (cutbox-rows.mjs): the forced cells as the released guide's own fill.sh prints them over the translation 769069367ac77924… (all of the seat's roots in one cut). By AI agents, Wed Nov 11 2026. No macro, syntax, notation, axiom, sorry.
-/
import Derived.Test.YbulkbpakChecked
import GoSem.Claim
import GoSem.ClaimJoined
import GoSem.ClaimMapViews
import Derived.JoinedTies
import Derived.KernelRfl
namespace Go.Proofs.Ybulkbpak
/- THE CELL 'sum', in the pinned program and in every row, IS THE sha256 OF THE DUMP (.gsa) THAT YbulkbpakProg.lean LOADS. Nothing in Lean hashes anything: it is a label: what it is worth is what the hold of that sum in a sandbox is worth. -/
noncomputable def Yba.pinned : Pinned := { name := "ybulkbpak", sum := "769069367ac7792457d69e14f36ec8a8b72ae9d61dede62f62340fb2888ead26", checked := Yba.checked }
namespace Rows
def none {H : Type} : Left H := { results := [], args := [] }

/-- 'history.LawS3286BExact': WHATEVER THE INPUT: true; the input reads as it did. -/
def lawS3286BExactSpec : ChangeSpec := { name := "lawS3286BExact", fn := fun _ => fun
  | [d1, d2, d3] => { results := [.lit (.bool true)], args := [d1, d2, d3] }
  | _ => none }
def lawS3286BExactRow : OpenClaim := { program := "ybulkbpak", sum := "769069367ac7792457d69e14f36ec8a8b72ae9d61dede62f62340fb2888ead26", func := "example.com/lockstep/lockstep/internal/history.LawS3286BExact", spec := "lawS3286BExact", apart := false }
def LawS3286BExactSaid : Prop := lawS3286BExactRow.holds Yba.pinned (OpenSpec.ofChange lawS3286BExactSpec)

/-- ITS FALSE NEIGHBOUR: 'it returns false'. Refute it at one input. -/
def lawS3286BExactWrong : ChangeSpec := { name := "lawS3286BExact", fn := fun _ => fun
  | [d1, d2, d3] => { results := [.lit (.bool false)], args := [d1, d2, d3] }
  | _ => none }
def LawS3286BExactWrongFalsely : Prop := lawS3286BExactRow.holds Yba.pinned (OpenSpec.ofChange lawS3286BExactWrong)

end Rows
end Go.Proofs.Ybulkbpak
