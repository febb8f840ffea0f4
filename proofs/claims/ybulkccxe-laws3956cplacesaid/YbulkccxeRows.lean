/-
  No cell of these rows narrows 'for every input' (looked for: loops, veiled, ifaces, maps, wideKeys, modest, calm, conditions, laid).
  DERIVED. THE GIVEN ROWS OF THIS SEAT. 1 by the template 'for every input the law returns true; each argument reads behind the call as it read before'; 0 by the template 'total and deterministic' (their statements: YbulkccxeTotals.lean).
  GIVEN WITH THE SEED: the statements are not yours to turn. If you find one false, say at which input.
  Laid BY PROGRAM, IN A SANDBOX (cutbox-rows.mjs): the forced cells as the released guide's own fill.sh prints them over the translation e80bb9dd37245440… (all of the seat's roots in one cut). By AI agents, Wed Nov 11 2026. No macro, syntax, notation, axiom, sorry.
-/
import Derived.Test.YbulkccxeChecked
import GoSem.Claim
import GoSem.ClaimJoined
import GoSem.ClaimMapViews
import Derived.JoinedTies
import Derived.KernelRfl
namespace Go.Proofs.Ybulkccxe
/- THE CELL 'sum', in the pinned program and in every row, IS THE sha256 OF THE DUMP (.gsa) THAT YbulkccxeProg.lean LOADS. Nothing in Lean hashes anything: it is a label: what it is worth is what the hold of that sum in a sandbox is worth. -/
noncomputable def Yba.pinned : Pinned := { name := "ybulkccxe", sum := "e80bb9dd37245440a404655cc66567a1a3dfccacd7dfd2b2d795def62c1f4eaf", checked := Yba.checked }
namespace Rows
def none {H : Type} : Left H := { results := [], args := [] }

/-- 'unfold.LawS3956CPlace': WHATEVER THE INPUT: true; the input reads as it did. -/
def lawS3956CPlaceSpec : ChangeSpec := { name := "lawS3956CPlace", fn := fun _ => fun
  | [d1, d2] => { results := [.lit (.bool true)], args := [d1, d2] }
  | _ => none }
def lawS3956CPlaceRow : OpenClaim := { program := "ybulkccxe", sum := "e80bb9dd37245440a404655cc66567a1a3dfccacd7dfd2b2d795def62c1f4eaf", func := "example.com/unfolded-leaves/unfolded-leaves/unfold.LawS3956CPlace", spec := "lawS3956CPlace", inPlace := ["slices.overlaps[*example.com/unfolded-leaves/unfolded-leaves/yang.Statement]"], unfollowed := true, recurses := true, apart := false }
def LawS3956CPlaceSaid : Prop := lawS3956CPlaceRow.holds Yba.pinned (OpenSpec.ofChange lawS3956CPlaceSpec)

/-- ITS FALSE NEIGHBOUR: 'it returns false'. Refute it at one input. -/
def lawS3956CPlaceWrong : ChangeSpec := { name := "lawS3956CPlace", fn := fun _ => fun
  | [d1, d2] => { results := [.lit (.bool false)], args := [d1, d2] }
  | _ => none }
def LawS3956CPlaceWrongFalsely : Prop := lawS3956CPlaceRow.holds Yba.pinned (OpenSpec.ofChange lawS3956CPlaceWrong)

end Rows
end Go.Proofs.Ybulkccxe
