/-
  No cell of these rows narrows 'for every input' (looked for: loops, veiled, ifaces, maps, wideKeys, modest, calm, conditions, laid).
  DERIVED. THE GIVEN ROWS OF THIS SEAT. 1 by the template 'for every input the law returns true; each argument reads behind the call as it read before'; 0 by the template 'total and deterministic' (their statements: YbulkccxsTotals.lean).
  GIVEN WITH THE SEED: the statements are not yours to turn. If you find one false, say at which input.
  Laid BY PROGRAM, IN A SANDBOX (cutbox-rows.mjs): the forced cells as the released guide's own fill.sh prints them over the translation cbfb9f2f3c64030a… (all of the seat's roots in one cut). By AI agents, Wed Nov 11 2026. No macro, syntax, notation, axiom, sorry.
-/
import Derived.Test.YbulkccxsChecked
import GoSem.Claim
import GoSem.ClaimJoined
import GoSem.ClaimMapViews
import Derived.JoinedTies
import Derived.KernelRfl
namespace Go.Proofs.Ybulkccxs
/- THE CELL 'sum', in the pinned program and in every row, IS THE sha256 OF THE DUMP (.gsa) THAT YbulkccxsProg.lean LOADS. Nothing in Lean hashes anything: it is a label: what it is worth is what the hold of that sum in a sandbox is worth. -/
noncomputable def Yba.pinned : Pinned := { name := "ybulkccxs", sum := "cbfb9f2f3c64030ac8ea87245b22676bd0441ccab477aec0509ed11d0e732ee6", checked := Yba.checked }
namespace Rows
def none {H : Type} : Left H := { results := [], args := [] }

/-- 'journal.LawS3957CScript': WHATEVER THE INPUT: true; the input reads as it did. -/
def lawS3957CScriptSpec : ChangeSpec := { name := "lawS3957CScript", fn := fun _ => fun
  | [d] => { results := [.lit (.bool true)], args := [d] }
  | _ => none }
def lawS3957CScriptRow : OpenClaim := { program := "ybulkccxs", sum := "cbfb9f2f3c64030ac8ea87245b22676bd0441ccab477aec0509ed11d0e732ee6", func := "example.com/slipwell/slipwell/internal/journal.LawS3957CScript", spec := "lawS3957CScript", apart := false }
def LawS3957CScriptSaid : Prop := lawS3957CScriptRow.holds Yba.pinned (OpenSpec.ofChange lawS3957CScriptSpec)

/-- ITS FALSE NEIGHBOUR: 'it returns false'. Refute it at one input. -/
def lawS3957CScriptWrong : ChangeSpec := { name := "lawS3957CScript", fn := fun _ => fun
  | [d] => { results := [.lit (.bool false)], args := [d] }
  | _ => none }
def LawS3957CScriptWrongFalsely : Prop := lawS3957CScriptRow.holds Yba.pinned (OpenSpec.ofChange lawS3957CScriptWrong)

end Rows
end Go.Proofs.Ybulkccxs
