/-
  The kit of the law A: blocks known whole, rows of bytes, appending bytes.
-/
import Derived.Test.YbulkfhtoFmtProg
import Derived.WalkKit
import Derived.WalkSpells
import Derived.Deep.QuietTactic
import Derived.BigQuiet
import Derived.Deep.DrawnRows
import Derived.Deep.CutRange
import Derived.Deep.CutBlock
import Derived.Deep.AppendLies
import Derived.Deep.RegionLaw
import Derived.Deep.MidRow
import Derived.OwnWalk
import Derived.Lib.AppendStr
import Derived.Lib.ItoaNum
import Derived.Maps.AppendAt
namespace Go.Proofs.YbulkfhtoFmt.A
open Go.RowKit

theorem hide {p : Prop} (h : p) : Hid p := h
theorem Hid.stop {p : Prop} (h : Hid p) : p := h
theorem Hid.go {p : Prop} (h : p) : Hid p := h

/-! ### a block that is known whole -/
def Blk (W : World) (g ty : Nat) (l : List Value) : Prop := W.heap[g]? = some (.cells l.toArray ty (0, 0))

theorem grown_set (w : World) (a : Addr) (v : Value) : w.grownBy (w.setCell a v) (some a.block) :=
  ⟨rfl, rfl, rfl, by simp [World.setCell], fun k _ hr => Below.heap_setCell _ _ _ _ (fun e => hr (by rw [e]))⟩

section
variable {W W' : World} {g ty : Nat} {l : List Value}
theorem Blk.lt (h : Blk W g ty l) : g < W.heap.size := (Array.getElem?_eq_some_iff.1 h).1
theorem Blk.cell (h : Blk W g ty l) {i : Nat} {v : Value} (hv : l[i]? = some v) : W.cell? ⟨g, i, none⟩ = some v := by
  rw [cell_of_row W g i _ ty (0, 0) h]; simpa using hv
theorem Blk.frozen (h : Blk W g ty l) (j : Nat) : W.frozen? ⟨g, j, none⟩ = false := by simp [World.frozen?, show W.heap[g]? = _ from h]
theorem Blk.kept (h : Blk W g ty l) {row : Option Nat} (hg : W.grownBy W' row) (hne : some g ≠ row) : Blk W' g ty l := (hg.block g h.lt hne).trans h
theorem Blk.below (h : Blk W g ty l) {B : Nat} (hb : Below B W W') (hB : g < B) : Blk W' g ty l := (hb.block g hB).trans h
theorem Blk.store (h : Blk W g ty l) (i : Nat) (v : Value) : Blk (W.setCell ⟨g, i, none⟩ v) g ty (l.set i v) := by
  rw [setCell_eq_setRow W g i _ ty (0, 0) v h]
  have := setRow_heap W g l.toArray (l.toArray.setIfInBounds i v) ty (0, 0) h
  unfold Blk
  rw [this]
  simp
theorem Blk.other (h : Blk W g ty l) {a : Addr} (ha : g ≠ a.block) (v : Value) : Blk (W.setCell a v) g ty l := h.kept (grown_set W a v) (by simpa using ha)
theorem Blk.alloc (h : Blk W g ty l) (o : Obj) : Blk (W.alloc o) g ty l := h.kept (World.grownBy_alloc W o none) (by simp)
theorem Blk.new (W : World) (ty : Nat) (l : List Value) : Blk (W.alloc (.cells l.toArray ty)) W.heap.size ty l := heap_alloc_new _ _
theorem Blk.drewN (h : Blk W g ty l) (k : Nat) : Blk (W.drewN k) g ty l := h
theorem Blk.drew (h : Blk W g ty l) : Blk W.drew g ty l := h
theorem Blk.range (h : Blk W g ty l) (o : Nat) {cs : List Value} (hc : (l.drop o).take cs.length = cs) : W.rangeAt g o cs := fun j v hv => by
  refine h.cell ?_
  rw [← hc, List.getElem?_take] at hv
  split at hv
  · rw [List.getElem?_drop] at hv; exact hv
  · cases hv
end
theorem below_grown {n : Nat} {a b : World} (h : Below n a b) (hn : a.heap.size ≤ n) : a.grownBy b none := ⟨h.os, h.tape, h.output, h.size, fun k hk _ => h.block k (by omega)⟩
theorem below_size {W W' : World} (h : Below W.heap.size W W') : W.grownBy W' none := below_grown h (Nat.le_refl _)
theorem below_drewN {B : Nat} {a b : World} (h : Below B a b) (k : Nat) : Below B a (b.drewN k) := ⟨h.os, h.tape, h.output, h.size, h.block⟩
theorem grown_trans {a b c : World} {row row' : Option Nat} (h : a.grownBy b row) (k : b.grownBy c row') (hr : row' = row ∨ ∀ g, row' = some g → a.heap.size ≤ g) : a.grownBy c row :=
  ⟨k.os.trans h.os, k.tape.trans h.tape, k.output.trans h.output, Nat.le_trans h.size k.size, fun i hi hne => (k.block i (Nat.lt_of_lt_of_le hi h.size) (by
    rcases hr with rfl | hr
    · exact hne
    · intro e; have := hr i e.symm; omega)).trans (h.block i hi hne)⟩
theorem grown_refl (a : World) (row : Option Nat) : a.grownBy a row := ⟨rfl, rfl, rfl, Nat.le_refl _, fun _ _ _ => rfl⟩
theorem grown_drew {a b : World} {row : Option Nat} (h : a.grownBy b row) : a.grownBy b.drew row := ⟨h.os, h.tape, h.output, h.size, h.block⟩
theorem grown_undrew {a b : World} {row : Option Nat} (h : a.drew.grownBy b row) : a.grownBy b row := ⟨h.os, h.tape, h.output, h.size, h.block⟩

theorem grown_made {a c : World} {o : Obj} {row : Option Nat} (h : (a.alloc o).grownBy c row) : a.grownBy c row :=
  ⟨h.os, h.tape, h.output, Nat.le_trans (by simp) h.size, fun k hk hne => (h.block k (by simp; omega) hne).trans (Below.heap_alloc a o k hk)⟩

theorem set_parts {α : Type} (l : List α) (o : Nat) (v : α) (r : List α) (h : o + (r.length + 1) ≤ l.length) : (l.set o v).take (o + 1) ++ (r ++ (l.set o v).drop (o + 1 + r.length)) = l.take o ++ ((v :: r) ++ l.drop (o + (v :: r).length)) := by
  have e1 : (l.set o v).take (o + 1) = l.take o ++ [v] := by
    rw [List.take_succ_eq_append_getElem (by simp; omega), List.take_set_of_le (Nat.le_refl _)]
    simp
  rw [e1, List.drop_set_of_lt (by omega)]
  simp [Nat.add_assoc, Nat.add_comm 1]
theorem Blk.sets {g ty : Nat} : ∀ (vs : List Value) (o : Nat) (W : World) (l : List Value), Blk W g ty l → o + vs.length ≤ l.length → Blk (W.setCells g o vs) g ty (l.take o ++ (vs ++ l.drop (o + vs.length)))
  | [], o, W, l, h, _ => by simpa [World.setCells] using h
  | v :: r, o, W, l, h, hl => by
    rw [World.setCells]
    have := Blk.sets r (o + 1) _ _ (h.store o v) (by simp at hl ⊢; omega)
    rw [set_parts l o v r (by simpa using hl)] at this
    exact this
theorem grown_sets (g : Nat) : ∀ (vs : List Value) (o : Nat) (w : World), w.grownBy (w.setCells g o vs) (some g)
  | [], _, w => grown_refl w _
  | v :: r, o, w => by
    rw [World.setCells]
    exact grown_trans (grown_set w ⟨g, o, none⟩ v) (grown_sets g r (o + 1) _) (.inl rfl)
theorem below_sets {B g : Nat} (hg : B ≤ g) (vs : List Value) (o : Nat) {a w : World} (h : Below B a w) : Below B a (w.setCells g o vs) :=
  have k := grown_sets g vs o w
  ⟨k.os.trans h.os, k.tape.trans h.tape, k.output.trans h.output, Nat.le_trans h.size k.size, fun i hi => by
    by_cases hw : i < w.heap.size
    · exact (k.block i hw (by simp; omega)).trans (h.block i hi)
    · have e : (w.setCells g o vs).heap.size = w.heap.size := by
        clear k h
        induction vs generalizing o w with
        | nil => rfl
        | cons v r ih => rw [World.setCells, ih _ (by simpa [World.setCell] using hw)]; simp [World.setCell]
      rw [← h.block i hi, Array.getElem?_eq_none (by omega), Array.getElem?_eq_none (by omega)]⟩
theorem Blk.whole {W : World} {g ty : Nat} {l l' : List Value} (h : Blk W g ty l) (hl : l'.length = l.length) : Blk (W.setCells g 0 l') g ty l' := by
  have := Blk.sets l' 0 W l h (by omega)
  simpa [hl] using this

/-! ### rows of bytes -/
def bc (l : List UInt8) : List Value := l.map fun b => .int .u8 (b.toNat : Int)
theorem bc_length (l : List UInt8) : (bc l).length = l.length := by simp [bc]
theorem bc_append (l m : List UInt8) : bc (l ++ m) = bc l ++ bc m := by simp [bc]
theorem bc_one (l : List UInt8) : ∀ u ∈ bc l, u.oneCell' = true := by
  intro u hu
  obtain ⟨b, _, rfl⟩ := List.mem_map.1 hu
  rfl
theorem bc_get (l : List UInt8) {i : Nat} (hi : i < l.length) : (bc l)[i]? = some (.int .u8 ((l[i]'hi).toNat : Int)) := by simp [bc, List.getElem?_eq_getElem hi]

/-- A slice of bytes of our own. -/
def Row (w : World) (B : Nat) (v : Value) (l : List UInt8) : Prop := w.ownsRow B 5 1 v l.length (bc l)
section
variable {w w' : World} {B : Nat} {v : Value} {l : List UInt8}
theorem Row.nil (w : World) (B : Nat) : Row w B (.slice none 0 0) [] := World.ownsRow_nil _ _ _ _
theorem Row.kept {row : Option Nat} (h : Row w B v l) (hg : w.grownBy w' row) (hne : v.ownBlock = none ∨ v.ownBlock ≠ row) : Row w' B v l := World.ownsRow.kept h hg hne
theorem Row.grown (h : Row w B v l) (hg : w.grownBy w' none) : Row w' B v l := h.kept hg (by cases v.ownBlock <;> simp)
theorem Row.alloc (h : Row w B v l) (o : Obj) : Row (w.alloc o) B v l := World.ownsRow.alloc h o
theorem Row.drew (h : Row w B v l) : Row w.drew B v l := h
theorem Row.lt (h : Row w B v l) : ∀ k, v.ownBlock = some k → B ≤ k ∧ k < w.heap.size := World.ownsRow.lt h
theorem Row.form (h : Row w B v l) : ∃ a cap, v = .slice a l.length cap := by
  rcases h.2 with ⟨rfl, e⟩ | ⟨g, cap, cur, rfl, _⟩
  · exact ⟨none, 0, by rw [e]⟩
  · exact ⟨_, cap, rfl⟩
end

/-- Bytes that lie somewhere. -/
structure Bytes (W : World) (pa : Option Addr) (t : List UInt8) : Prop where
  form : 0 < t.length → ∃ b off, pa = some ⟨b, off, none⟩
  cell : ∀ b off, pa = some ⟨b, off, none⟩ → ∀ i (hi : i < t.length), W.cell? ⟨b, off + i, none⟩ = some (.int .u8 ((t[i]'hi).toNat : Int))

/-- The row's block is the old one or a new one. -/
def Own (W : World) (v v' : Value) : Prop := v'.ownBlock = v.ownBlock ∨ ∃ g, v'.ownBlock = some g ∧ W.heap.size ≤ g
theorem Own.refl (W : World) (v : Value) : Own W v v := .inl rfl
theorem Own.trans {W W' : World} {v v' v'' : Value} (h : Own W v v') (hs : W.heap.size ≤ W'.heap.size) (k : Own W' v' v'') : Own W v v'' := by
  rcases k with k | ⟨g, e, hg⟩
  · rcases h with h | ⟨g, e, hg⟩
    · exact .inl (k.trans h)
    · exact .inr ⟨g, k.trans e, hg⟩
  · exact .inr ⟨g, e, Nat.le_trans hs hg⟩
theorem Own.of {W : World} {v v' : Value} (h : v'.ownBlock = v.ownBlock ∨ v'.ownBlock = some W.heap.size) : Own W v v' := h.imp id fun e => ⟨_, e, Nat.le_refl _⟩
theorem Own.ne {W : World} {v v' : Value} (h : Own W v v') {b : Nat} (hb : b < W.heap.size) (hne : some b ≠ v.ownBlock) : some b ≠ v'.ownBlock := by
  rcases h with h | ⟨g, e, hg⟩
  · rw [h]; exact hne
  · rw [e]; simp; omega
theorem Own.more {W W' : World} {v v' : Value} (h : v'.ownBlock = v.ownBlock ∨ v'.ownBlock = some W'.heap.size) (hs : W.heap.size ≤ W'.heap.size) : Own W v v' := h.imp id fun e => ⟨_, e, hs⟩
/-- .. so that the old world's blocks are kept but for the old row's. -/
theorem Own.grown {a b c : World} {v v' : Value} (h : Own a v v') (hg : a.grownBy b v.ownBlock) (k : b.grownBy c v'.ownBlock) : a.grownBy c v.ownBlock :=
  grown_trans hg k (h.imp id fun ⟨g, e, hl⟩ => fun g' e' => by rw [e] at e'; cases e'; exact hl)

theorem info5 : (Ybaf.prog.info? 5).map (fun i => (i.zero, i.size, i.bytes)) = some (some (.int .u8 0), 1, 1) := by kernel_rfl

theorem str_own {w w' : World} {B : Nat} {v v' : Value} {l : List UInt8} {ty : TypeId} {t : ByteArray} (hr : Row w B v l) (hlen : l.length + t.data.toList.length ≤ 140737488355328) (hnil : v' = .slice none 0 0 ↔ v = .slice none 0 0 ∧ t.size = 0) (hrun : (Builtin.append_ #[25, 9] ty #[v, .string t]).run Ybaf.prog w = .ok v' w') : v'.ownBlock = v.ownBlock ∨ v'.ownBlock = some w.heap.size := by
  obtain ⟨i, e1, e2, e3, e4⟩ := info_parts info5
  have et : t.size = t.data.toList.length := by simp
  rcases hr.2 with ⟨rfl, e0⟩ | ⟨g, cap, cur, rfl, hbg, hg, hnc, hcm, hcs, htake⟩
  · by_cases hm : t.size = 0
    · rw [hnil.2 ⟨rfl, hm⟩]
      exact .inl rfl
    · have h2 := run_append_nil_string (P := Ybaf.prog) w 25 9 ty 5 i (.int .u8 0) Ybaf.underlying25 Ybaf.underlying9 e1 e2 t (by omega) (by omega) (by rw [e4]; omega)
      rw [h2] at hrun
      cases hrun
      exact .inr rfl
  · by_cases hroom : l.length + t.size ≤ cap
    · have h2 := Lib.run_append_room_string (P := Ybaf.prog) w 25 9 ty 5 i Ybaf.underlying25 Ybaf.underlying9 e1 e3 g l.length cap cur hg t hroom (by omega)
      rw [h2] at hrun
      cases hrun
      exact .inl rfl
    · have h2 := Lib.run_append_grow_string (P := Ybaf.prog) w 25 9 ty 5 i (.int .u8 0) Ybaf.underlying25 Ybaf.underlying9 e1 e2 ⟨g, 0, none⟩ l.length cap (bc l) (by rw [e3]; simp [bc]) (World.ownsRow.cells hr (g := g) rfl) t (by omega) (by omega) (by rw [e4]; exact growslice_fits (by omega) (by omega))
      rw [h2] at hrun
      cases hrun
      exact .inr rfl

section
variable {w : World} {ops : Array Oper} {rest : List Oper} {o : Oper} {a : Act} {Q : Exit → Act → World → Prop} {K : Act → World → Prop} {B : Nat} {v : Value} {l : List UInt8}

theorem wp_app_str (s x : Operand) (ho : o.op = .call { callee := .builtin .append, args := #[s, x], argTypes := #[25, 9] })
    (hs : a.eval s = v) (hr : Row w B v l) (t : ByteArray) (hx : a.eval x = .string t) (hlen : l.length + t.data.toList.length ≤ 140737488355328) (hB : B ≤ w.heap.size)
    (h : ∀ v' w', Row w' B v' (l ++ t.data.toList) → w.grownBy w' v.ownBlock → (v'.ownBlock = v.ownBlock ∨ v'.ownBlock = some w.heap.size) → K (a.put o.dst v') w') : o.wp Ybaf.prog a w K Q := by
  obtain ⟨i, e1, e2, e3, e4⟩ := info_parts info5
  have et : t.size = t.data.toList.length := by simp
  obtain ⟨v', w', hrun, h2, h3, h4⟩ := Lib.run_append_own_string (P := Ybaf.prog) w B 25 9 o.type 5 i Ybaf.underlying25 Ybaf.underlying9 e1 e2 e3 e4 v l.length (bc l) hr t (by rw [et]; simp only [maxLen]; omega) (by omega) hB
  unfold Oper.wp execOp
  simp only [ho, resolve, invoke, builtin, Sem.run_bind, Sem.run_pure, Result.andThen_ok, List.map_toArray, List.map_cons, List.map_nil, hs, hx, hrun]
  refine h v' w' ?_ h3 (str_own hr hlen h4 hrun)
  unfold Row
  rw [bc_append, List.length_append, ← et]
  exact h2

theorem wp_app_sl (s x : Operand) (ho : o.op = .call { callee := .builtin .append, args := #[s, x], argTypes := #[25, 25] })
    (hs : a.eval s = v) (hr : Row w B v l) (t : List UInt8) (ad : Addr) (c : Nat) (hx : a.eval x = .slice (some ad) t.length c) (hc : ∀ j u, (bc t)[j]? = some u → w.cell? (ad.add j) = some u) (hlen : l.length + t.length ≤ 140737488355328) (hB : B ≤ w.heap.size)
    (h : ∀ v' w', Row w' B v' (l ++ t) → w.grownBy w' v.ownBlock → (v' = .slice none 0 0 ↔ v = .slice none 0 0 ∧ t.length = 0) → (v'.ownBlock = v.ownBlock ∨ v'.ownBlock = some w.heap.size) → K (a.put o.dst v') w') : o.wp Ybaf.prog a w K Q := by
  obtain ⟨i, e1, e2, e3, e4⟩ := info_parts info5
  obtain ⟨v', w', hrun, h2, h3, h4, h5⟩ := run_append_own_at (P := Ybaf.prog) w B 25 o.type 5 i _ 1 1 Ybaf.underlying25 e1 e2 e3 e4 rfl (by omega) v l.length (bc l) hr ad t.length c (bc t) (by simp [bc]) hc (bc_one t) (by simp only [maxLen]; omega) (by omega) hB
  unfold Oper.wp execOp
  simp only [ho, resolve, invoke, builtin, Sem.run_bind, Sem.run_pure, Result.andThen_ok, List.map_toArray, List.map_cons, List.map_nil, hs, hx, hrun]
  refine h v' w' ?_ h3 h4 h5
  unfold Row
  rw [bc_append, List.length_append]
  exact h2

theorem app_str (hgd : o.guard = none) (s x : Operand) (ho : o.op = .call { callee := .builtin .append, args := #[s, x], argTypes := #[25, 9] })
    (hs : a.eval s = v) (hr : Row w B v l) (t : ByteArray) (hx : a.eval x = .string t) (hlen : l.length + t.data.toList.length ≤ 140737488355328) (hB : B ≤ w.heap.size)
    (h : ∀ v' w', Row w' B v' (l ++ t.data.toList) → w.grownBy w' v.ownBlock → (v'.ownBlock = v.ownBlock ∨ v'.ownBlock = some w.heap.size) → wpList Ybaf.prog ops Q rest (a.put o.dst v') w') : wpList Ybaf.prog ops Q (o :: rest) a w :=
  wpList_plain hgd fun _ hK => wp_app_str s x ho hs hr t hx hlen hB fun v' w' h1 h2 h3 => hK _ _ (h v' w' h1 h2 h3)
theorem app_sl (hgd : o.guard = none) (s x : Operand) (ho : o.op = .call { callee := .builtin .append, args := #[s, x], argTypes := #[25, 25] })
    (hs : a.eval s = v) (hr : Row w B v l) (t : List UInt8) (ad : Addr) (c : Nat) (hx : a.eval x = .slice (some ad) t.length c) (hc : ∀ j u, (bc t)[j]? = some u → w.cell? (ad.add j) = some u) (hlen : l.length + t.length ≤ 140737488355328) (hB : B ≤ w.heap.size)
    (h : ∀ v' w', Row w' B v' (l ++ t) → w.grownBy w' v.ownBlock → (v' = .slice none 0 0 ↔ v = .slice none 0 0 ∧ t.length = 0) → (v'.ownBlock = v.ownBlock ∨ v'.ownBlock = some w.heap.size) → wpList Ybaf.prog ops Q rest (a.put o.dst v') w') : wpList Ybaf.prog ops Q (o :: rest) a w :=
  wpList_plain hgd fun _ hK => wp_app_sl s x ho hs hr t ad c hx hc hlen hB fun v' w' h1 h2 h3 h4 => hK _ _ (h v' w' h1 h2 h3 h4)
theorem step_str {E : Prop} (hgd : o.guard = none) (s x : Operand) (ho : o.op = .call { callee := .builtin .append, args := #[s, x], argTypes := #[25, 9] })
    (hs : a.eval s = v) (hr : Row w B v l) (t : ByteArray) (hx : a.eval x = .string t) (hlen : l.length + t.data.toList.length ≤ 140737488355328) (hB : B ≤ w.heap.size)
    (h : ∀ v' w', Row w' B v' (l ++ t.data.toList) → w.grownBy w' v.ownBlock → (v'.ownBlock = v.ownBlock ∨ v'.ownBlock = some w.heap.size) → K (a.put o.dst v') w') : if Region.wanted o (yielded ops a.tmps) = true then Oper.wp Ybaf.prog o a w K Q else E := by
  have hw : Region.wanted o (yielded ops a.tmps) = true := by simp [Region.wanted, hgd]
  rw [if_pos hw]
  exact wp_app_str s x ho hs hr t hx hlen hB h
theorem step_sl {E : Prop} (hgd : o.guard = none) (s x : Operand) (ho : o.op = .call { callee := .builtin .append, args := #[s, x], argTypes := #[25, 25] })
    (hs : a.eval s = v) (hr : Row w B v l) (t : List UInt8) (ad : Addr) (c : Nat) (hx : a.eval x = .slice (some ad) t.length c) (hc : ∀ j u, (bc t)[j]? = some u → w.cell? (ad.add j) = some u) (hlen : l.length + t.length ≤ 140737488355328) (hB : B ≤ w.heap.size)
    (h : ∀ v' w', Row w' B v' (l ++ t) → w.grownBy w' v.ownBlock → (v' = .slice none 0 0 ↔ v = .slice none 0 0 ∧ t.length = 0) → (v'.ownBlock = v.ownBlock ∨ v'.ownBlock = some w.heap.size) → K (a.put o.dst v') w') : if Region.wanted o (yielded ops a.tmps) = true then Oper.wp Ybaf.prog o a w K Q else E := by
  have hw : Region.wanted o (yielded ops a.tmps) = true := by simp [Region.wanted, hgd]
  rw [if_pos hw]
  exact wp_app_sl s x ho hs hr t ad c hx hc hlen hB h
end

/-- The cells of a block that was made with these bytes. -/
theorem lies_new (w : World) (ty : Nat) (t : List UInt8) : ∀ j u, (bc t)[j]? = some u → (w.alloc (.cells (bc t).toArray ty)).cell? ((⟨w.heap.size, 0, none⟩ : Addr).add j) = some u :=
  World.news_of_block (heap_alloc_new _ _)

end Go.Proofs.YbulkfhtoFmt.A
