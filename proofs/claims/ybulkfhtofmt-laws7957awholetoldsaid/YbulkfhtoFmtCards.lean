/-
  DERIVED. GIVEN WITH THE SEED: THE CARDS: each row of YbulkfhtoFmtRows.lean that lists a variable, with what it lists TIED to the program's text (the seventh form; the later family's looks); each row that meets fmt, with fmt's text TOLD by the authors' own Lean function (tested against real Go, not proved from fmt's source: count such statements apart). THE CARD IS WHAT COUNTS. Prove the row's statement (the work); the ties are given (YbulkfhtoFmtTie.lean); close each card by the builder's one call (the guide's Derived/Test/ToyasCard.lean, 'card_holds'). Laid BY PROGRAM, IN A SANDBOX (cutbox-door.mjs). By AI agents, Wed Nov 11 2026. No macro, syntax, notation, axiom, sorry.
-/
import Derived.Test.YbulkfhtoFmtRows
import GoSem.ClaimSeven
namespace Go.Proofs.YbulkfhtoFmt
namespace Rows

/-- THE TOLD CARD OF 'store.LawS7957AWhole'. -/
def lawS7957AWholeCard : Claim7 := { stood := { row := lawS7957AWholeRow, standIns := [], harness := (true, "de409407511290eabd5b34e35aef0b809bf25f466b31cbe173779b7d21f8865f"), looks := false }, told := true, goes := false }
def LawS7957AWholeToldSaid : Prop := Claim7.holds Ybaf.pinned (.plain (OpenSpec.ofChange lawS7957AWholeSpec)) lawS7957AWholeCard
/-- ITS FALSE NEIGHBOUR. Refute it at one input. -/
def LawS7957AWholeToldWrongFalsely : Prop := Claim7.holds Ybaf.pinned (.plain (OpenSpec.ofChange lawS7957AWholeWrong)) lawS7957AWholeCard
end Rows
end Go.Proofs.YbulkfhtoFmt
