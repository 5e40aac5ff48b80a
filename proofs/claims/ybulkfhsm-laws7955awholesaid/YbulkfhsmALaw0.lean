/-
  The law A: its pieces, and what is known between them.
-/
import Derived.Test.YbulkfhsmALib
import Derived.Test.YbulkfhsmANew
namespace Go.Proofs.Ybulkfhsm.A
open Go.RowKit

def lead : Code → Option Nat
  | .region r _ _ => some r
  | .seq a _ => lead a
  | _ => none

def cutAt (r : Nat) : Code → Option Code
  | .seq a b => if lead a = some r then some (.seq a b) else match cutAt r a with
    | some c => some c
    | none => cutAt r b
  | .loop c => cutAt r c
  | .block _ c => cutAt r c
  | .scope c => cutAt r c
  | .cond _ a b => match cutAt r a with
    | some c => some c
    | none => cutAt r b
  | _ => none

/-- The piece of a function's code whose first region is r. -/
def piece (c : Option Code) (r : Nat) : Code := (c.bind (cutAt r)).getD .skip

/-- What the law answers. -/
def Yes (w : World) (e : Ending) (w' : World) : Prop := e = .returned (.bool true) ∧ Below w.heap.size w w'

theorem Lies.drewN {W : World} {d : Dat} {gh go gt gv : Nat} (h : Lies W d gh go gt gv) (k : Nat) : Lies (W.drewN k) d gh go gt gv := ⟨h.ck, h.ct, h.co, h.ob, h.tx, h.tv⟩

/-- The history and its numbering, and their copies. -/
structure Env (w W : World) (d : Dat) (gh go gt gv gh' go' gt' gv' : Nat) : Prop where
  lies : Lies W d gh go gt gv
  copy : Lies W d gh' go' gt' gv'
  bel : Below w.heap.size w W

theorem Below.drewN' {B : Nat} {a b : World} (h : Below B a b) (k : Nat) : Below B a (b.drewN k) := ⟨h.os, h.tape, h.output, h.size, h.block⟩

section
variable {w W W' : World} {d : Dat} {gh go gt gv gh' go' gt' gv' : Nat}
theorem Env.drewN (h : Env w W d gh go gt gv gh' go' gt' gv') (k : Nat) : Env w (W.drewN k) d gh go gt gv gh' go' gt' gv' := ⟨h.lies.drewN k, h.copy.drewN k, Below.drewN' h.bel k⟩
theorem Env.below (h : Env w W d gh go gt gv gh' go' gt' gv') (hb : Below W.heap.size W W') : Env w W' d gh go gt gv gh' go' gt' gv' := ⟨h.lies.below hb, h.copy.below hb, h.bel.trans (hb.mono h.bel.size)⟩
end

/-- What newAccesses has handed back, as the law reads it. -/
structure Res (W : World) (d : Dat) (sa gf : Nat) (v oh nh : Value) (nx fs E : Nat → Int) : Prop where
  acc : Blk W sa 43 [v, oh, nh, .slice (some ⟨gf, 0, none⟩) d.objects d.objects]
  fst : Blk W gf 21 (rowF (fun x => .int .i32 (fs x)) d.objects)
  ops : W.ownsRow 0 45 4 oh (d.cs d.N) (flatK d.acc (d.cs d.N))
  nxt : W.ownsRow 0 21 1 nh (d.cs d.N) (rowF (fun j => .int .i32 (nx j)) (d.cs d.N))
  val : W.ownsRow 0 25 1 v d.total (rowF (fun i => .int .i32 (E i)) d.total)

/-- .. and what it says. -/
structure Says (d : Dat) (nx fs E : Nat → Int) (p : Nat → Nat) : Prop where
  ord : Ord d p
  vals : Vals d p d.nt E
  fst : ∀ x : Nat, x < d.objects → Fst d.obj (d.cs d.N) (x : Int) (fs x)
  nxt : ∀ j, j < d.cs d.N → Nxt d.obj (d.cs d.N) j (nx j)

section
variable {W W' : World} {d : Dat} {sa gf : Nat} {v oh nh : Value} {nx fs E : Nat → Int}
theorem Res.grown (h : Res W d sa gf v oh nh nx fs E) (hg : W.grownBy W' none) : Res W' d sa gf v oh nh nx fs E :=
  ⟨h.acc.kept hg (by simp), h.fst.kept hg (by simp), h.ops.kept hg (by cases oh.ownBlock <;> simp), h.nxt.kept hg (by cases nh.ownBlock <;> simp), h.val.kept hg (by cases v.ownBlock <;> simp)⟩
theorem Res.below (h : Res W d sa gf v oh nh nx fs E) (hb : Below W.heap.size W W') : Res W' d sa gf v oh nh nx fs E := h.grown (below_grown hb rfl)
theorem Res.drewN (h : Res W d sa gf v oh nh nx fs E) (k : Nat) : Res (W.drewN k) d sa gf v oh nh nx fs E := ⟨h.acc, h.fst, h.ops, h.nxt, h.val⟩
end

/-- Nothing but draws. -/
structure Same (a b : World) : Prop where
  os : b.os = a.os
  tape : b.tape = a.tape
  output : b.output = a.output
  heap : b.heap = a.heap

theorem Same.refl (a : World) : Same a a := ⟨rfl, rfl, rfl, rfl⟩
theorem Same.drewN {a b : World} (h : Same a b) (k : Nat) : Same a (b.drewN k) := ⟨h.os, h.tape, h.output, h.heap⟩
theorem Same.cell {a b : World} (h : Same a b) (x : Addr) : b.cell? x = a.cell? x := World.cell?_of_block (by rw [h.heap])
theorem Same.below {a b : World} (h : Same a b) (B : Nat) : Below B a b := ⟨h.os, h.tape, h.output, by rw [h.heap]; exact Nat.le_refl _, fun k _ => by rw [h.heap]⟩
theorem Same.grown {a b : World} (h : Same a b) : a.grownBy b none := below_grown (h.below a.heap.size) rfl
theorem Same.own {a b : World} (h : Same a b) {lo e k n : Nat} {v : Value} {xs : List Value} (ho : a.ownsRow lo e k v n xs) : b.ownsRow lo e k v n xs := ho.kept h.grown (by cases v.ownBlock <;> simp)
theorem Same.blk {a b : World} (h : Same a b) {g ty : Nat} {l : List Value} (ho : Blk a g ty l) : Blk b g ty l := ho.kept h.grown (by simp)
theorem Same.env {w a b : World} {d : Dat} {gh go gt gv gh' go' gt' gv' : Nat} (h : Same a b) (he : Env w a d gh go gt gv gh' go' gt' gv') : Env w b d gh go gt gv gh' go' gt' gv' := he.below (h.below _)
theorem Same.res {a b : World} {d : Dat} {sa gf : Nat} {v oh nh : Value} {nx fs E : Nat → Int} (h : Same a b) (hr : Res a d sa gf v oh nh nx fs E) : Res b d sa gf v oh nh nx fs E := hr.grown h.grown
end Go.Proofs.Ybulkfhsm.A
