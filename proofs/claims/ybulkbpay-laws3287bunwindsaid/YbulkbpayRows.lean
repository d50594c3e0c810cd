/-
  No cell of these rows narrows 'for every input' (looked for: loops, veiled, ifaces, maps, wideKeys, modest, calm, conditions, laid).
  DERIVED. THE GIVEN ROWS OF THIS SEAT. 1 by the template 'for every input the law returns true; each argument reads behind the call as it read before'; 0 by the template 'total and deterministic' (their statements: YbulkbpayTotals.lean).
  GIVEN WITH THE SEED: the statements are not yours to turn. If you find one false, say at which input.
  Laid BY PROGRAM, IN A SANDBOX (cutbox-rows.mjs): the forced cells as the released guide's own fill.sh prints them over the translation bcfc87dc55905834… (all of the seat's roots in one cut). By AI agents, Wed Nov 11 2026. No macro, syntax, notation, axiom, sorry.
-/
import Derived.Test.YbulkbpayChecked
import GoSem.Claim
import GoSem.ClaimJoined
import GoSem.ClaimMapViews
import Derived.JoinedTies
import Derived.KernelRfl
namespace Go.Proofs.Ybulkbpay
/- THE CELL 'sum', in the pinned program and in every row, IS THE sha256 OF THE DUMP (.gsa) THAT YbulkbpayProg.lean LOADS. Nothing in Lean hashes anything: it is a label: what it is worth is what the hold of that sum in a sandbox is worth. -/
noncomputable def Yba.pinned : Pinned := { name := "ybulkbpay", sum := "bcfc87dc5590583442740a673733361802f26752d3868db4a8b252e6d8a54686", checked := Yba.checked }
namespace Rows
def none {H : Type} : Left H := { results := [], args := [] }

/-- 'xmltext.LawS3287BUnwind': WHATEVER THE INPUT: true; the input reads as it did. -/
def lawS3287BUnwindSpec : ChangeSpec := { name := "lawS3287BUnwind", fn := fun _ => fun
  | [d1, d2] => { results := [.lit (.bool true)], args := [d1, d2] }
  | _ => none }
def lawS3287BUnwindRow : OpenClaim := { program := "ybulkbpay", sum := "bcfc87dc5590583442740a673733361802f26752d3868db4a8b252e6d8a54686", func := "example.com/bomwright/bomwright/internal/xmltext.LawS3287BUnwind", spec := "lawS3287BUnwind", unfollowed := true, recurses := true, apart := false }
def LawS3287BUnwindSaid : Prop := lawS3287BUnwindRow.holds Yba.pinned (OpenSpec.ofChange lawS3287BUnwindSpec)

/-- ITS FALSE NEIGHBOUR: 'it returns false'. Refute it at one input. -/
def lawS3287BUnwindWrong : ChangeSpec := { name := "lawS3287BUnwind", fn := fun _ => fun
  | [d1, d2] => { results := [.lit (.bool false)], args := [d1, d2] }
  | _ => none }
def LawS3287BUnwindWrongFalsely : Prop := lawS3287BUnwindRow.holds Yba.pinned (OpenSpec.ofChange lawS3287BUnwindWrong)

end Rows
end Go.Proofs.Ybulkbpay
