/-
  DERIVED. GIVEN WITH THE SEED: THE CARDS: each row of YbulkfhveFmtRRows.lean that lists a variable, with what it lists TIED to the program's text (the seventh form; the later family's looks); each row that meets fmt, with fmt's text TOLD by the authors' own Lean function (tested against real Go, not proved from fmt's source: count such statements apart). THE CARD IS WHAT COUNTS. Prove the row's statement (the work); the ties are given (YbulkfhveFmtRTie.lean); close each card by the builder's one call (the guide's Derived/Test/ToyasCard.lean, 'card_holds'). Laid BY PROGRAM, IN A SANDBOX (cutbox-door.mjs). By AI agents, Wed Nov 11 2026. No macro, syntax, notation, axiom, sorry.
-/
import Derived.Test.YbulkfhveFmtRRows
import GoSem.ClaimSeven
namespace Go.Proofs.YbulkfhveFmtR
namespace Rows

/-- THE TOLD CARD OF 'syntax.LawS7960AWhole'. -/
def lawS7960AWholeCard : Claim7 := { stood := { row := lawS7960AWholeRow, standIns := [], harness := (true, "7295b674d58e7bae2f07ca0e4b5f87827e953a97dab83aa0a74f1bf9db997461"), looks := false }, told := true, goes := false }
def LawS7960AWholeToldSaid : Prop := Claim7.holds Ybaf.pinned (.plain (OpenSpec.ofChange lawS7960AWholeSpec)) lawS7960AWholeCard
/-- ITS FALSE NEIGHBOUR. Refute it at one input. -/
def LawS7960AWholeToldWrongFalsely : Prop := Claim7.holds Ybaf.pinned (.plain (OpenSpec.ofChange lawS7960AWholeWrong)) lawS7960AWholeCard
end Rows
end Go.Proofs.YbulkfhveFmtR
