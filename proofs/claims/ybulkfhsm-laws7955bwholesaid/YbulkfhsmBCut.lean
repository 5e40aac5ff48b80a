/-
  The pieces of the law's code, taken out by their first regions.
-/
import Derived.Test.YbulkfhsmBLaw1
import Derived.Deep.CutBlock
namespace Go.Proofs.Ybulkfhsm.B

def lead : Code → Option Nat
  | .region r _ _ => some r
  | .seq a _ => lead a
  | _ => none

def cutAt (r : Nat) : Code → Option Code
  | .seq a b => if lead a = some r then some (.seq a b) else match cutAt r a with
    | some c => some c
    | none => cutAt r b
  | .loop c => cutAt r c
  | .block _ c => cutAt r c
  | .scope c => cutAt r c
  | .cond _ a b => match cutAt r a with
    | some c => some c
    | none => cutAt r b
  | _ => none

/-- Only the exit n is taken. -/
def QE (n : Nat) (K : Act → World → Prop) : Exit → Act → World → Prop := fun e a w => match e with
  | .exit m => m = n ∧ K a w
  | _ => False
/-- Only the normal end is taken. -/
def QN (K : Act → World → Prop) : Exit → Act → World → Prop := fun e a w => match e with
  | .normal => K a w
  | _ => False

theorem wp_QE {P : Program} {c : Code} {n : Nat} {Q : Exit → Act → World → Prop} {a : Act} {w : World} (h : Code.wp P c (QE n fun a w => Q (.exit n) a w) a w) : Code.wp P c Q a w :=
  wp_mono h fun e a w h => by
    cases e with
    | exit m => obtain ⟨rfl, h⟩ := h; exact h
    | _ => exact absurd h (by simp [QE])

theorem wp_QN {P : Program} {c : Code} {Q : Exit → Act → World → Prop} {a : Act} {w : World} (h : Code.wp P c (QN fun a w => Q .normal a w) a w) : Code.wp P c Q a w :=
  wp_mono h fun e a w h => by
    cases e with
    | normal => exact h
    | _ => exact absurd h (by simp [QN])

/-- The piece of a function's code whose first region is r. -/
def piece (c : Option Code) (r : Nat) : Code := (c.bind (cutAt r)).getD .skip
end Go.Proofs.Ybulkfhsm.B
