/-
  No cell of these rows narrows 'for every input' (looked for: loops, veiled, ifaces, maps, wideKeys, modest, calm, conditions, laid).
  DERIVED. THE GIVEN ROWS OF THIS SEAT. 1 by the template 'for every input the law returns true; each argument reads behind the call as it read before'; 0 by the template 'total and deterministic' (their statements: YbulkfhtoFmtTotals.lean).
  GIVEN WITH THE SEED: the statements are not yours to turn. If you find one false, say at which input.
  Laid BY PROGRAM, IN A SANDBOX (cutbox-rows.mjs): the forced cells as the released guide's own fill.sh prints them over the translation f8b564ff78d90446… (all of the seat's roots in one cut). By AI agents, Wed Nov 11 2026. No macro, syntax, notation, axiom, sorry.
-/
import Derived.Test.YbulkfhtoFmtChecked
import GoSem.Claim
import GoSem.ClaimJoined
import GoSem.ClaimMapViews
import Derived.JoinedTies
import Derived.KernelRfl
namespace Go.Proofs.YbulkfhtoFmt
/- THE CELL 'sum', in the pinned program and in every row, IS THE sha256 OF THE DUMP (.gsa) THAT YbulkfhtoFmtProg.lean LOADS. Nothing in Lean hashes anything: it is a label: what it is worth is what the hold of that sum in a sandbox is worth. -/
noncomputable def Ybaf.pinned : Pinned := { name := "ybulkfhtofmt", sum := "f8b564ff78d904465708508a5c32d58d476e4a6d63306679b90535083a6e3295", checked := Ybaf.checked }
namespace Rows
def none {H : Type} : Left H := { results := [], args := [] }

/-- 'store.LawS7957AWhole': WHATEVER THE INPUT: true; the input reads as it did. -/
def lawS7957AWholeSpec : ChangeSpec := { name := "lawS7957AWhole", fn := fun _ => fun
  | [d1, d2, d3, d4, d5, d6, d7, d8] => { results := [.lit (.bool true)], args := [d1, d2, d3, d4, d5, d6, d7, d8] }
  | _ => none }
def lawS7957AWholeRow : OpenClaim := { program := "ybulkfhtofmt", sum := "f8b564ff78d904465708508a5c32d58d476e4a6d63306679b90535083a6e3295", func := "example.com/quintet/quintet/store.LawS7957AWhole", spec := "lawS7957AWhole", stops := ["fmt.Sprintf"], inPlace := ["fmt.Appendf", "fmt.Sprintf"], unfollowed := true, recurses := true, apart := false }
/-- NO THEOREM (fmt's text is open here; it may be false): for the released tool's asking of the row's closed facts alone. THE STATEMENT IS 'LawS7957AWholeToldSaid' (YbulkfhtoFmtCards.lean). -/
def LawS7957AWholeFormAsk : Prop := lawS7957AWholeRow.holds Ybaf.pinned (OpenSpec.ofChange lawS7957AWholeSpec)

/-- ITS FALSE NEIGHBOUR: 'it returns false'. Refute it at one input. -/
def lawS7957AWholeWrong : ChangeSpec := { name := "lawS7957AWhole", fn := fun _ => fun
  | [d1, d2, d3, d4, d5, d6, d7, d8] => { results := [.lit (.bool false)], args := [d1, d2, d3, d4, d5, d6, d7, d8] }
  | _ => none }
def LawS7957AWholeWrongFormAsk : Prop := lawS7957AWholeRow.holds Ybaf.pinned (OpenSpec.ofChange lawS7957AWholeWrong)

end Rows
end Go.Proofs.YbulkfhtoFmt
