/-
  No cell of these rows narrows 'for every input' (looked for: loops, veiled, ifaces, maps, wideKeys, modest, calm, conditions, laid).
  DERIVED. THE GIVEN ROWS OF THIS SEAT. 1 by the template 'for every input the law returns true; each argument reads behind the call as it read before'; 0 by the template 'total and deterministic' (their statements: YbulkfhveFmtRTotals.lean).
  GIVEN WITH THE SEED: the statements are not yours to turn. If you find one false, say at which input.
  Laid BY PROGRAM, IN A SANDBOX (cutbox-rows.mjs): the forced cells as the released guide's own fill.sh prints them over the translation bba0eb193f410a67… (all of the seat's roots in one cut). By AI agents, Wed Nov 11 2026. No macro, syntax, notation, axiom, sorry.
-/
import Derived.Test.YbulkfhveFmtRChecked
import GoSem.Claim
import GoSem.ClaimJoined
import GoSem.ClaimMapViews
import Derived.JoinedTies
import Derived.KernelRfl
namespace Go.Proofs.YbulkfhveFmtR
/- THE CELL 'sum', in the pinned program and in every row, IS THE sha256 OF THE DUMP (.gsa) THAT YbulkfhveFmtRProg.lean LOADS. Nothing in Lean hashes anything: it is a label: what it is worth is what the hold of that sum in a sandbox is worth. -/
noncomputable def Ybaf.pinned : Pinned := { name := "ybulkfhvefmtr", sum := "bba0eb193f410a67dc833d72af3e46251553b3a713d190b94b871255f6bf5b2a", checked := Ybaf.checked }
namespace Rows
def none {H : Type} : Left H := { results := [], args := [] }

/-- 'syntax.LawS7960AWhole': WHATEVER THE INPUT: true; the input reads as it did. -/
def lawS7960AWholeSpec : ChangeSpec := { name := "lawS7960AWhole", fn := fun _ => fun
  | [d1, d2, d3, d4, d5, d6, d7, d8] => { results := [.lit (.bool true)], args := [d1, d2, d3, d4, d5, d6, d7, d8] }
  | _ => none }
def lawS7960AWholeRow : OpenClaim := { program := "ybulkfhvefmtr", sum := "bba0eb193f410a67dc833d72af3e46251553b3a713d190b94b871255f6bf5b2a", func := "example.com/returnwise/returnwise/internal/ada/syntax.LawS7960AWhole", spec := "lawS7960AWhole", stops := ["fmt.Sprintf, its operands' methods called"], inPlace := ["fmt.Sprintf"], unfollowed := true, recurses := true, apart := false }
/-- NO THEOREM (fmt's text is open here; it may be false): for the released tool's asking of the row's closed facts alone. THE STATEMENT IS 'LawS7960AWholeToldSaid' (YbulkfhveFmtRCards.lean). -/
def LawS7960AWholeFormAsk : Prop := lawS7960AWholeRow.holds Ybaf.pinned (OpenSpec.ofChange lawS7960AWholeSpec)

/-- ITS FALSE NEIGHBOUR: 'it returns false'. Refute it at one input. -/
def lawS7960AWholeWrong : ChangeSpec := { name := "lawS7960AWhole", fn := fun _ => fun
  | [d1, d2, d3, d4, d5, d6, d7, d8] => { results := [.lit (.bool false)], args := [d1, d2, d3, d4, d5, d6, d7, d8] }
  | _ => none }
def LawS7960AWholeWrongFormAsk : Prop := lawS7960AWholeRow.holds Ybaf.pinned (OpenSpec.ofChange lawS7960AWholeWrong)

end Rows
end Go.Proofs.YbulkfhveFmtR
