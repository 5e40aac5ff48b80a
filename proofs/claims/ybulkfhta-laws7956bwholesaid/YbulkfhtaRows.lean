/-
  No cell of these rows narrows 'for every input' (looked for: loops, veiled, ifaces, maps, wideKeys, modest, calm, conditions, laid).
  DERIVED. THE GIVEN ROWS OF THIS SEAT. 2 by the template 'for every input the law returns true; each argument reads behind the call as it read before'; 0 by the template 'total and deterministic' (their statements: YbulkfhtaTotals.lean).
  GIVEN WITH THE SEED: the statements are not yours to turn. If you find one false, say at which input.
  Laid BY PROGRAM, IN A SANDBOX (cutbox-rows.mjs): the forced cells as the released guide's own fill.sh prints them over the translation d53deb560627c33c… (all of the seat's roots in one cut). By AI agents, Wed Nov 11 2026. No macro, syntax, notation, axiom, sorry.
-/
import Derived.Test.YbulkfhtaChecked
import GoSem.Claim
import GoSem.ClaimJoined
import GoSem.ClaimMapViews
import Derived.JoinedTies
import Derived.KernelRfl
namespace Go.Proofs.Ybulkfhta
/- THE CELL 'sum', in the pinned program and in every row, IS THE sha256 OF THE DUMP (.gsa) THAT YbulkfhtaProg.lean LOADS. Nothing in Lean hashes anything: it is a label: what it is worth is what the hold of that sum in a sandbox is worth. -/
noncomputable def Yba.pinned : Pinned := { name := "ybulkfhta", sum := "d53deb560627c33c47c653d4a1d4fa0a2bc134feda452163ea889dc5a7bb4379", checked := Yba.checked }
namespace Rows
def none {H : Type} : Left H := { results := [], args := [] }

/-- 'detector.LawS7956AWhole': WHATEVER THE INPUT: true; the input reads as it did. -/
def lawS7956AWholeSpec : ChangeSpec := { name := "lawS7956AWhole", fn := fun _ => fun
  | [d1, d2, d3] => { results := [.lit (.bool true)], args := [d1, d2, d3] }
  | _ => none }
def lawS7956AWholeRow : OpenClaim := { program := "ybulkfhta", sum := "d53deb560627c33c47c653d4a1d4fa0a2bc134feda452163ea889dc5a7bb4379", func := "example.com/tocsin/tocsin/detector.LawS7956AWhole", spec := "lawS7956AWhole", plainKeys := false, apart := false }
def LawS7956AWholeSaid : Prop := lawS7956AWholeRow.holds Yba.pinned (OpenSpec.ofChange lawS7956AWholeSpec)

/-- ITS FALSE NEIGHBOUR: 'it returns false'. Refute it at one input. -/
def lawS7956AWholeWrong : ChangeSpec := { name := "lawS7956AWhole", fn := fun _ => fun
  | [d1, d2, d3] => { results := [.lit (.bool false)], args := [d1, d2, d3] }
  | _ => none }
def LawS7956AWholeWrongFalsely : Prop := lawS7956AWholeRow.holds Yba.pinned (OpenSpec.ofChange lawS7956AWholeWrong)

/-- 'bench.LawS7956BWhole': WHATEVER THE INPUT: true; the input reads as it did. -/
def lawS7956BWholeSpec : ChangeSpec := { name := "lawS7956BWhole", fn := fun _ => fun
  | [d1, d2, d3, d4, d5, d6, d7] => { results := [.lit (.bool true)], args := [d1, d2, d3, d4, d5, d6, d7] }
  | _ => none }
def lawS7956BWholeRow : OpenClaim := { program := "ybulkfhta", sum := "d53deb560627c33c47c653d4a1d4fa0a2bc134feda452163ea889dc5a7bb4379", func := "example.com/tocsin/tocsin/internal/bench.LawS7956BWhole", spec := "lawS7956BWhole", unfollowed := true, recurses := true, plainKeys := false, apart := false }
def LawS7956BWholeSaid : Prop := lawS7956BWholeRow.holds Yba.pinned (OpenSpec.ofChange lawS7956BWholeSpec)

/-- ITS FALSE NEIGHBOUR: 'it returns false'. Refute it at one input. -/
def lawS7956BWholeWrong : ChangeSpec := { name := "lawS7956BWhole", fn := fun _ => fun
  | [d1, d2, d3, d4, d5, d6, d7] => { results := [.lit (.bool false)], args := [d1, d2, d3, d4, d5, d6, d7] }
  | _ => none }
def LawS7956BWholeWrongFalsely : Prop := lawS7956BWholeRow.holds Yba.pinned (OpenSpec.ofChange lawS7956BWholeWrong)

end Rows
end Go.Proofs.Ybulkfhta
