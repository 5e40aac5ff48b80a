/-
  The law A: its data, its pieces.
-/
import Derived.Test.YbulkfhtoFmtAMarsh
import Derived.Test.YbulkfhtoFmtASame
namespace Go.Proofs.YbulkfhtoFmt.A
open Go.RowKit Go.Extern

def lead : Code → Option Nat
  | .region r _ _ => some r
  | .seq a _ => lead a
  | _ => none
def cutAt (r : Nat) : Code → Option Code
  | .seq a b => if lead a = some r then some (.seq a b) else match cutAt r a with
    | some c => some c
    | none => cutAt r b
  | .loop c => cutAt r c
  | .block _ c => cutAt r c
  | .scope c => cutAt r c
  | .cond _ a b => match cutAt r a with
    | some c => some c
    | none => cutAt r b
  | _ => none
/-- The piece of a function's code whose first region is r. -/
def piece (c : Option Code) (r : Nat) : Code := (c.bind (cutAt r)).getD .skip

/-- What the law answers. -/
def Yes (w : World) (e : Ending) (w' : World) : Prop := e = .returned (.bool true) ∧ Below w.heap.size w w'

/-- What came in. -/
structure Dat where
  x : Int
  rs : Bool
  hc : Bool
  ck : List UInt8
  ik : List UInt8
  kk : Int
  ho : Bool
  z0 : Qn
  ok : Int
  m : Nat
  va : Option Addr
  vcap : Nat
  zs : Nat → Qn

/-- A copy of a quintet. -/
structure Cp (z q : Qn) : Prop where
  eq : q = { z with pa := q.pa, pc := q.pc }
  nil : q.pa = none ↔ z.pa = none

def Dat.nod (D : Dat) (q0 : Qn) (qs : Nat → Qn) : Nod := ⟨D.x, D.rs, if D.hc then some (D.ck, D.ik, D.kk) else none, if D.ho then some (q0, D.ok) else none, D.m, qs⟩

structure Good (W : World) (D : Dat) : Prop where
  lck : D.ck.length = 16
  lik : D.ik.length = 16
  wkk : (Lit.int .i64 D.kk).wf = true
  wok : (Lit.int .i64 D.ok).wf = true
  z0 : D.z0.Ok
  x0 : Xs W D.z0.pa D.z0.t D.z0.pc
  vn : D.va = none → D.m = 0 ∧ D.vcap = 0
  vec : ∀ j, j < D.m → ∃ b off, D.va = some ⟨b, off, none⟩ ∧ W.rangeAt b (off + j * 65) (D.zs j).cells ∧ (D.zs j).Ok ∧ Xs W (D.zs j).pa (D.zs j).t (D.zs j).pc
  few : D.m ≤ 1048576
theorem Good.below {W W' : World} {D : Dat} (h : Good W D) (hb : Below W.heap.size W W') : Good W' D :=
  ⟨h.lck, h.lik, h.wkk, h.wok, h.z0, h.x0.below hb, h.vn, fun j hj => by
    obtain ⟨b, off, e, r, o, x⟩ := h.vec j hj
    exact ⟨b, off, e, range_below r hb, o, x.below hb⟩, h.few⟩

structure Env (w W : World) (D : Dat) (p : Pl) (q0 : Qn) (qs : Nat → Qn) (c11 c13 : Nat) : Prop where
  node : NodeAt W (D.nod q0 qs) p
  cp0 : D.ho = true → Cp D.z0 q0
  cps : ∀ j, j < D.m → Cp (D.zs j) (qs j)
  vnil : p.vh = .slice none 0 0 ↔ D.va = none
  b11 : Blk W c11 24 (bc D.ck ++ (bc D.ik ++ [.int .i64 D.kk]))
  b13 : Blk W c13 27 D.z0.cells
  good : Good W D
  bel : Below w.heap.size w W
theorem Env.below {w W W' : World} {D : Dat} {p : Pl} {q0 : Qn} {qs : Nat → Qn} {c11 c13 : Nat} (h : Env w W D p q0 qs c11 c13) (hb : Below W.heap.size W W') : Env w W' D p q0 qs c11 c13 :=
  ⟨h.node.below hb, h.cp0, h.cps, h.vnil, h.b11.below hb h.b11.lt, h.b13.below hb h.b13.lt, h.good.below hb, h.bel.trans (hb.mono h.bel.size)⟩

/-- The text the law builds. -/
def tWant (D : Dat) : List UInt8 := tFields D.x D.rs ++ (if D.hc then tCtx D.ck D.ik D.kk else []) ++ (if D.ho then sChal ++ tQuin D.z0.r D.z0.t D.z0.c D.z0.i D.z0.a ++ tKsi D.ok else []) ++ tVecs D.zs D.m

theorem Cp.text {z q : Qn} (h : Cp z q) : tQuin q.r q.t q.c q.i q.a = tQuin z.r z.t z.c z.i z.a := by
  have := h.eq
  rw [this]
theorem vecs_text {zs qs : Nat → Qn} : ∀ m, (∀ j, j < m → Cp (zs j) (qs j)) → tVecs qs m = tVecs zs m
  | 0, _ => rfl
  | m + 1, h => by
    rw [tVecs, tVecs, vecs_text m (fun j hj => h j (by omega)), tVec, tVec, (h m (by omega)).text]
theorem Env.text {w W : World} {D : Dat} {p : Pl} {q0 : Qn} {qs : Nat → Qn} {c11 c13 : Nat} (h : Env w W D p q0 qs c11 c13) : tNode (D.nod q0 qs) = tWant D := by
  unfold tNode tWant
  have e1 : tCon (D.nod q0 qs).ctx = if D.hc then tCtx D.ck D.ik D.kk else [] := by
    unfold Dat.nod
    cases D.hc <;> rfl
  have e2 : tOut (D.nod q0 qs).out = if D.ho then sChal ++ tQuin D.z0.r D.z0.t D.z0.c D.z0.i D.z0.a ++ tKsi D.ok else [] := by
    have := h.cp0
    unfold Dat.nod
    cases hh : D.ho with
    | false => rfl
    | true =>
      show sChal ++ tQuin q0.r q0.t q0.c q0.i q0.a ++ tKsi D.ok = _
      rw [(this hh).text]
      rfl
  rw [e1, e2]
  show _ ++ tVecs qs D.m = _
  rw [vecs_text D.m h.cps]
  rfl
end Go.Proofs.YbulkfhtoFmt.A
