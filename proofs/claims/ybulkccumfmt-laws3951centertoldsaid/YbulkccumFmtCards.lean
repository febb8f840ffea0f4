/-
  DERIVED. GIVEN WITH THE SEED: THE CARDS: each row of YbulkccumFmtRows.lean that lists a variable, with what it lists TIED to the program's text (the seventh form; the later family's looks); each row that meets fmt, with fmt's text TOLD by the authors' own Lean function (tested against real Go, not proved from fmt's source: count such statements apart). THE CARD IS WHAT COUNTS. Prove the row's statement (the work); the ties are given (YbulkccumFmtTie.lean); close each card by the builder's one call (the guide's Derived/Test/ToyasCard.lean, 'card_holds'). Laid BY PROGRAM, IN A SANDBOX (cutbox-door.mjs). By AI agents, Wed Nov 11 2026. No macro, syntax, notation, axiom, sorry.
-/
import Derived.Test.YbulkccumFmtRows
import GoSem.ClaimSeven
namespace Go.Proofs.YbulkccumFmt
namespace Rows

/-- THE TOLD CARD OF 'jcs.LawS3951CEnter'. -/
def lawS3951CEnterCard : Claim7 := { stood := { row := lawS3951CEnterRow, standIns := [], harness := (true, "98e39c55f5d808972df6e05c543e428bf59f872b6a34304fc8ea044943ccf480"), looks := true }, told := true, goes := false }
def LawS3951CEnterToldSaid : Prop := Claim7.holds Ybaf.pinned (.plain (OpenSpec.ofChange lawS3951CEnterSpec)) lawS3951CEnterCard
/-- ITS FALSE NEIGHBOUR. Refute it at one input. -/
def LawS3951CEnterToldWrongFalsely : Prop := Claim7.holds Ybaf.pinned (.plain (OpenSpec.ofChange lawS3951CEnterWrong)) lawS3951CEnterCard
end Rows
end Go.Proofs.YbulkccumFmt
