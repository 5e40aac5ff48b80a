/-
  No cell of these rows narrows 'for every input' (looked for: loops, veiled, ifaces, maps, wideKeys, modest, calm, conditions, laid).
  DERIVED. THE GIVEN ROWS OF THIS SEAT. 3 by the template 'for every input the law returns true; each argument reads behind the call as it read before'; 0 by the template 'total and deterministic' (their statements: YbulkfhsmTotals.lean).
  GIVEN WITH THE SEED: the statements are not yours to turn. If you find one false, say at which input.
  Laid BY PROGRAM, IN A SANDBOX (cutbox-rows.mjs): the forced cells as the released guide's own fill.sh prints them over the translation 37ced6898c48b66f… (all of the seat's roots in one cut). By AI agents, Wed Nov 11 2026. No macro, syntax, notation, axiom, sorry.
-/
import Derived.Test.YbulkfhsmChecked
import GoSem.Claim
import GoSem.ClaimJoined
import GoSem.ClaimMapViews
import Derived.JoinedTies
import Derived.KernelRfl
namespace Go.Proofs.Ybulkfhsm
/- THE CELL 'sum', in the pinned program and in every row, IS THE sha256 OF THE DUMP (.gsa) THAT YbulkfhsmProg.lean LOADS. Nothing in Lean hashes anything: it is a label: what it is worth is what the hold of that sum in a sandbox is worth. -/
noncomputable def Yba.pinned : Pinned := { name := "ybulkfhsm", sum := "37ced6898c48b66f0eafc83c8338293fae139344bb55fc26f060c23df8d57d5e", checked := Yba.checked }
namespace Rows
def none {H : Type} : Left H := { results := [], args := [] }

/-- 'history.LawS7955AWhole': WHATEVER THE INPUT: true; the input reads as it did. -/
def lawS7955AWholeSpec : ChangeSpec := { name := "lawS7955AWhole", fn := fun _ => fun
  | [d1, d2, d3] => { results := [.lit (.bool true)], args := [d1, d2, d3] }
  | _ => none }
def lawS7955AWholeRow : OpenClaim := { program := "ybulkfhsm", sum := "37ced6898c48b66f0eafc83c8338293fae139344bb55fc26f060c23df8d57d5e", func := "example.com/serialis/serialis/history.LawS7955AWhole", spec := "lawS7955AWhole", unfollowed := true, recurses := true, apart := false }
def LawS7955AWholeSaid : Prop := lawS7955AWholeRow.holds Yba.pinned (OpenSpec.ofChange lawS7955AWholeSpec)

/-- ITS FALSE NEIGHBOUR: 'it returns false'. Refute it at one input. -/
def lawS7955AWholeWrong : ChangeSpec := { name := "lawS7955AWhole", fn := fun _ => fun
  | [d1, d2, d3] => { results := [.lit (.bool false)], args := [d1, d2, d3] }
  | _ => none }
def LawS7955AWholeWrongFalsely : Prop := lawS7955AWholeRow.holds Yba.pinned (OpenSpec.ofChange lawS7955AWholeWrong)

/-- 'history.LawS7955BWhole': WHATEVER THE INPUT: true; the input reads as it did. -/
def lawS7955BWholeSpec : ChangeSpec := { name := "lawS7955BWhole", fn := fun _ => fun
  | [d] => { results := [.lit (.bool true)], args := [d] }
  | _ => none }
def lawS7955BWholeRow : OpenClaim := { program := "ybulkfhsm", sum := "37ced6898c48b66f0eafc83c8338293fae139344bb55fc26f060c23df8d57d5e", func := "example.com/serialis/serialis/history.LawS7955BWhole", spec := "lawS7955BWhole", recurses := true, apart := false }
def LawS7955BWholeSaid : Prop := lawS7955BWholeRow.holds Yba.pinned (OpenSpec.ofChange lawS7955BWholeSpec)

/-- ITS FALSE NEIGHBOUR: 'it returns false'. Refute it at one input. -/
def lawS7955BWholeWrong : ChangeSpec := { name := "lawS7955BWhole", fn := fun _ => fun
  | [d] => { results := [.lit (.bool false)], args := [d] }
  | _ => none }
def LawS7955BWholeWrongFalsely : Prop := lawS7955BWholeRow.holds Yba.pinned (OpenSpec.ofChange lawS7955BWholeWrong)

/-- 'history.LawS7955CWhole': WHATEVER THE INPUT: true; the input reads as it did. -/
def lawS7955CWholeSpec : ChangeSpec := { name := "lawS7955CWhole", fn := fun _ => fun
  | [d] => { results := [.lit (.bool true)], args := [d] }
  | _ => none }
def lawS7955CWholeRow : OpenClaim := { program := "ybulkfhsm", sum := "37ced6898c48b66f0eafc83c8338293fae139344bb55fc26f060c23df8d57d5e", func := "example.com/serialis/serialis/history.LawS7955CWhole", spec := "lawS7955CWhole", recurses := true, apart := false }
def LawS7955CWholeSaid : Prop := lawS7955CWholeRow.holds Yba.pinned (OpenSpec.ofChange lawS7955CWholeSpec)

/-- ITS FALSE NEIGHBOUR: 'it returns false'. Refute it at one input. -/
def lawS7955CWholeWrong : ChangeSpec := { name := "lawS7955CWhole", fn := fun _ => fun
  | [d] => { results := [.lit (.bool false)], args := [d] }
  | _ => none }
def LawS7955CWholeWrongFalsely : Prop := lawS7955CWholeRow.holds Yba.pinned (OpenSpec.ofChange lawS7955CWholeWrong)

end Rows
end Go.Proofs.Ybulkfhsm
