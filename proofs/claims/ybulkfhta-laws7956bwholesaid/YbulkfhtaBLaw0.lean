/-
  The law B: its pieces, and what is known between them.
-/
import Derived.Test.YbulkfhtaBNext
namespace Go.Proofs.Ybulkfhta.B
open Go.RowKit

def lead : Code → Option Nat
  | .region r _ _ => some r
  | .seq a _ => lead a
  | _ => none

def cutAt (r : Nat) : Code → Option Code
  | .seq a b => if lead a = some r then some (.seq a b) else match cutAt r a with
    | some c => some c
    | none => cutAt r b
  | .loop c => cutAt r c
  | .block _ c => cutAt r c
  | .scope c => cutAt r c
  | .cond _ a b => match cutAt r a with
    | some c => some c
    | none => cutAt r b
  | _ => none

/-- The piece of a function's code whose first region is r. -/
def piece (c : Option Code) (r : Nat) : Code := (c.bind (cutAt r)).getD .skip

/-- What the law answers. -/
def Yes (w : World) (e : Ending) (w' : World) : Prop := e = .returned (.bool true) ∧ Below w.heap.size w w'

/-- A slice of int64 that came in. -/
structure Given (W : World) (a : Option Addr) (n : Nat) (u : Nat → Int) : Prop where
  form : 0 < n → ∃ b off, a = some ⟨b, off, none⟩
  cell : ∀ b off, a = some ⟨b, off, none⟩ → ∀ i, i < n → W.cell? ⟨b, off + i, none⟩ = some (.int .i64 (u i))

theorem cell_below {W W' : World} {b o : Nat} {v : Value} (hb : Below W.heap.size W W') (h : W.cell? ⟨b, o, none⟩ = some v) : W'.cell? ⟨b, o, none⟩ = some v :=
  (World.cell?_of_block (hb.block b (World.block_lt_of_cell? _ _ h))).trans h
theorem Given.below {W W' : World} {a : Option Addr} {n : Nat} {u : Nat → Int} (h : Given W a n u) (hb : Below W.heap.size W W') : Given W' a n u :=
  ⟨h.form, fun b off e i hi => cell_below hb (h.cell b off e i hi)⟩

structure Env (w W : World) (L : Nat) (x : Ld) (a0 a5 : Option Addr) (xs : Nat → Int) : Prop where
  inp : Inp W L x
  g0 : Given W a0 x.n xs
  g5 : Given W a5 x.m x.R
  bel : Below w.heap.size w W

/-- A number that an int64 holds. -/
def wf64 (n : Int) : Prop := -9223372036854775808 ≤ n ∧ n ≤ 9223372036854775807

structure Ok (x : Ld) (xs : Nat → Int) : Prop where
  small : Small x
  sum : x.n + x.m ≤ 65536
  wx : ∀ i, i < x.n → wf64 (xs i)
  wy : ∀ i, i < x.m → wf64 (x.R i)
  mem : 0 < x.n → ∃ i, i < x.n ∧ x.D (x.p 0) = xs i
  min : ∀ i, i < x.n → x.D (x.p 0) ≤ xs i

section
variable {w W W' : World} {L : Nat} {x : Ld} {a0 a5 : Option Addr} {xs : Nat → Int}
theorem Given.drewN {a : Option Addr} {n : Nat} {u : Nat → Int} (h : Given W a n u) (k : Nat) : Given (W.drewN k) a n u := ⟨h.form, h.cell⟩
theorem Env.drewN (h : Env w W L x a0 a5 xs) (k : Nat) : Env w (W.drewN k) L x a0 a5 xs := ⟨h.inp.drewN k, h.g0.drewN k, h.g5.drewN k, below_drewN h.bel k⟩
theorem Env.below (h : Env w W L x a0 a5 xs) (hb : Below W.heap.size W W') : Env w W' L x a0 a5 xs := ⟨h.inp.below hb, h.g0.below hb, h.g5.below hb, h.bel.trans (hb.mono h.bel.size)⟩
end

/-- A variable that holds the time n. -/
abbrev TVar (W : World) (g : Nat) (n : Int) : Prop := Blk W g 37 [.int .u64 (n % 1000000000), .int .i64 (n / 1000000000), .pointer none]
theorem Blk.drewN {W : World} {g ty : Nat} {l : List Value} (h : Blk W g ty l) (k : Nat) : Blk (W.drewN k) g ty l := h
end Go.Proofs.Ybulkfhta.B
