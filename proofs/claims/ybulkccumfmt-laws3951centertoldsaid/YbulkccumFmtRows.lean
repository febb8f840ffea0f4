/-
  No cell of these rows narrows 'for every input' (looked for: loops, veiled, ifaces, maps, wideKeys, modest, calm, conditions, laid).
  DERIVED. THE GIVEN ROWS OF THIS SEAT. 1 by the template 'for every input the law returns true; each argument reads behind the call as it read before'; 0 by the template 'total and deterministic' (their statements: YbulkccumFmtTotals.lean).
  GIVEN WITH THE SEED: the statements are not yours to turn. If you find one false, say at which input.
  Laid BY PROGRAM, IN A SANDBOX (cutbox-rows.mjs): the forced cells as the released guide's own fill.sh prints them over the translation 73acbf23150bfd61… (all of the seat's roots in one cut). By AI agents, Wed Nov 11 2026. No macro, syntax, notation, axiom, sorry.
-/
import Derived.Test.YbulkccumFmtChecked
import GoSem.Claim
import GoSem.ClaimJoined
import GoSem.ClaimMapViews
import Derived.JoinedTies
import Derived.KernelRfl
namespace Go.Proofs.YbulkccumFmt
/- THE CELL 'sum', in the pinned program and in every row, IS THE sha256 OF THE DUMP (.gsa) THAT YbulkccumFmtProg.lean LOADS. Nothing in Lean hashes anything: it is a label: what it is worth is what the hold of that sum in a sandbox is worth. -/
noncomputable def Ybaf.pinned : Pinned := { name := "ybulkccumfmt", sum := "73acbf23150bfd61fb58db9abd29d798873ee28411765e231f51929ad851f21d", checked := Ybaf.checked }
namespace Rows
def none {H : Type} : Left H := { results := [], args := [] }

/-- 'jcs.LawS3951CEnter': WHATEVER THE INPUT: true; the input reads as it did. -/
def lawS3951CEnterSpec : ChangeSpec := { name := "lawS3951CEnter", fn := fun _ => fun
  | [d1, d2, d3, d4] => { results := [.lit (.bool true)], args := [d1, d2, d3, d4] }
  | _ => none }
def lawS3951CEnterRow : OpenClaim := { program := "ybulkccumfmt", sum := "73acbf23150bfd61fb58db9abd29d798873ee28411765e231f51929ad851f21d", func := "example.com/dammar/dammar/internal/jcs.LawS3951CEnter", spec := "lawS3951CEnter", stops := ["fmt.Sprintf, its operands' methods called"], inPlace := ["fmt.Sprintf"], unfollowed := true, recurses := true, apart := false }
/-- NO THEOREM (fmt's text is open here; it may be false): for the released tool's asking of the row's closed facts alone. THE STATEMENT IS 'LawS3951CEnterToldSaid' (YbulkccumFmtCards.lean). -/
def LawS3951CEnterFormAsk : Prop := lawS3951CEnterRow.holds Ybaf.pinned (OpenSpec.ofChange lawS3951CEnterSpec)

/-- ITS FALSE NEIGHBOUR: 'it returns false'. Refute it at one input. -/
def lawS3951CEnterWrong : ChangeSpec := { name := "lawS3951CEnter", fn := fun _ => fun
  | [d1, d2, d3, d4] => { results := [.lit (.bool false)], args := [d1, d2, d3, d4] }
  | _ => none }
def LawS3951CEnterWrongFormAsk : Prop := lawS3951CEnterRow.holds Ybaf.pinned (OpenSpec.ofChange lawS3951CEnterWrong)

end Rows
end Go.Proofs.YbulkccumFmt
