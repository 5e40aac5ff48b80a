/-
  The law A: its pieces; make, copy.
-/
import Derived.Test.YbulkfhveFmtRAFact
import Derived.Test.YbulkfhveFmtRAEq
namespace Go.Proofs.YbulkfhveFmtR.A
open Go.RowKit

def lead : Code → Option Nat
  | .region r _ _ => some r
  | .seq a _ => lead a
  | _ => none
def cutAt (r : Nat) : Code → Option Code
  | .seq a b => if lead a = some r then some (.seq a b) else match cutAt r a with
    | some c => some c
    | none => cutAt r b
  | .loop c => cutAt r c
  | .block _ c => cutAt r c
  | .scope c => cutAt r c
  | .cond _ a b => match cutAt r a with
    | some c => some c
    | none => cutAt r b
  | _ => none
/-- The piece of a function's code whose first region is r. -/
def piece (c : Option Code) (r : Nat) : Code := (c.bind (cutAt r)).getD .skip

/-- What the law answers. -/
def Yes (w : World) (e : Ending) (w' : World) : Prop := e = .returned (.bool true) ∧ Below w.heap.size w w'

/-- parseFactor goes from here to there. -/
def Fac (L : List Tk) (st en : Nat) : Prop := ∀ {W : World} {g tb cap : Nat} {dep : Int} {sub : Bool}, Ps W g tb cap L st dep sub →
  Calls Ybaf.prog 6 #[.pointer (some ⟨g, 0, none⟩)] W fun e w' => (∃ v, e = .returned v) ∧ Moved W w' g tb cap L en dep sub

/-- The row, numbered up to j. -/
def Num (W : World) (B : Nat) (v : Value) (L : List Tk) (j : Nat) : Prop := W.ownsRow B 28 4 v L.length (mx L 0 j)
theorem Num.of {W : World} {B : Nat} {v : Value} {L : List Tk} (h : Row W B v L) : Num W B v L 0 := by
  unfold Num
  rw [mx_raw L 0 0 (Nat.le_refl _)]
  exact h
theorem mx_range {W : World} {g ty : Nat} {L : List Tk} {c : List Value} (h : Blk W g ty c) (hc : c.take (L.length * 4) = mx L 0 L.length) : Toks W g L := fun m x hx r u hu => by
  have hm : m < L.length := (List.getElem?_eq_some_iff.1 hx).1
  have hr : r < 4 := (List.getElem?_eq_some_iff.1 hu).1
  have e := mx_get L 0 L.length m r x (by omega) hx hr
  rw [Nat.zero_add, hu, ← hc, List.getElem?_take, if_pos (by omega)] at e
  rw [show m * 4 = 4 * m by omega]
  exact h.cell e
theorem Num.toks {W : World} {B : Nat} {tb cap : Nat} {L : List Tk} (h : Num W B (.slice (some ⟨tb, 0, none⟩) L.length cap) L L.length) : Toks W tb L := by
  rcases h.2 with ⟨e, _⟩ | ⟨g, cap', cur, e, _, hg, _, _, _, htake⟩
  · simp at e
  · cases e
    exact mx_range (W := W) (ty := 28) (c := cur.toList) (by unfold Blk; simpa using hg) htake
theorem Num.cells {W : World} {B : Nat} {tb cap : Nat} {L : List Tk} {j : Nat} (h : Num W B (.slice (some ⟨tb, 0, none⟩) L.length cap) L j) : ∀ i u, (mx L 0 j)[i]? = some u → W.cell? ((⟨tb, 0, none⟩ : Addr).add i) = some u := World.ownsRow.cells h (g := tb) rfl
theorem mx_one : ∀ (l : List Tk) (i j : Nat), ∀ u ∈ mx l i j, u.oneCell' = true
  | [], _, _, u, h => by simp [mx] at h
  | x :: r, i, j, u, h => by
    rw [mx, List.mem_append] at h
    rcases h with h | h
    · split at h
      · exact x.one _ _ u h
      · exact x.one _ _ u h
    · exact mx_one r (i + 1) j u h

theorem run_copy28 (w : World) (ty : TypeId) (cb tb n dc sc : Nat) (cs : List Value) (hn : cs.length = n * 4) (hb : w.there cb 0 (n * 4)) (hs : ∀ j v, cs[j]? = some v → w.cell? ((⟨tb, 0, none⟩ : Addr).add j) = some v) (h1 : ∀ v ∈ cs, v.oneCell' = true) :
    (Builtin.copy_ #[25, 25] ty #[.slice (some ⟨cb, 0, none⟩) n dc, .slice (some ⟨tb, 0, none⟩) n sc]).run Ybaf.prog w = .ok (goInt n) (w.setCells cb 0 cs) := by
  obtain ⟨i, e1, _, e3, _⟩ := info_parts info28
  have hl := run_loadCells_list (P := Ybaf.prog) w ⟨tb, 0, none⟩ cs hs
  have hst := run_storeCells_cells (P := Ybaf.prog) cb 0 cs 0 w (fun j hj => by simpa using (hb j (by omega)).1) (fun j hj => by simpa using (hb j (by omega)).2) h1
  rw [hn] at hl
  simp [Builtin.copy_, run_underlying Ybaf.underlying25, Builtin.lenOf, Builtin.firstCells, sizeOf, typeInfo, e1, e3, hl, hst]
theorem wpList_copy28 {w : World} {ops : Array Oper} {rest : List Oper} {o : Oper} {a : Act} {Q : Exit → Act → World → Prop} (hgd : o.guard = none) (d s : Operand)
    (ho : o.op = .call { callee := .builtin .copy, args := #[d, s], argTypes := #[25, 25] }) (cb tb n dc sc : Nat) (hd : a.eval d = .slice (some ⟨cb, 0, none⟩) n dc) (hs : a.eval s = .slice (some ⟨tb, 0, none⟩) n sc)
    (cs : List Value) (hn : cs.length = n * 4) (hb : w.there cb 0 (n * 4)) (hc : ∀ j v, cs[j]? = some v → w.cell? ((⟨tb, 0, none⟩ : Addr).add j) = some v) (h1 : ∀ v ∈ cs, v.oneCell' = true)
    (h : wpList Ybaf.prog ops Q rest (a.put o.dst (goInt n)) (w.setCells cb 0 cs)) : wpList Ybaf.prog ops Q (o :: rest) a w :=
  wpList_plain hgd fun K hK => by
    unfold Oper.wp execOp
    simp only [ho, resolve, invoke, builtin, Sem.run_bind, Sem.run_pure, Result.andThen_ok, List.map_toArray, List.map_cons, List.map_nil, hd, hs, run_copy28 w o.type cb tb n dc sc cs hn hb hc h1]
    exact hK _ _ h
end Go.Proofs.YbulkfhveFmtR.A
