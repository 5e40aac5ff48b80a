/-
  The kit of the law A: blocks known whole, rows of tokens, appending tokens.
-/
import Derived.Test.YbulkfhveFmtRProg
import Derived.WalkKit
import Derived.WalkSpells
import Derived.Deep.QuietTactic
import Derived.BigQuiet
import Derived.Deep.DrawnRows
import Derived.Deep.CutRange
import Derived.Deep.CutBlock
import Derived.Deep.AppendLies
import Derived.Deep.RegionLaw
import Derived.Deep.MidRow
import Derived.OwnWalk
import Derived.Maps.AppendAt
namespace Go.Proofs.YbulkfhveFmtR.A
open Go.RowKit

theorem hide {p : Prop} (h : p) : Hid p := h
theorem Hid.stop {p : Prop} (h : Hid p) : p := h
theorem Hid.go {p : Prop} (h : p) : Hid p := h

/-! ### a block that is known whole -/
def Blk (W : World) (g ty : Nat) (l : List Value) : Prop := W.heap[g]? = some (.cells l.toArray ty (0, 0))

theorem grown_set (w : World) (a : Addr) (v : Value) : w.grownBy (w.setCell a v) (some a.block) :=
  ⟨rfl, rfl, rfl, by simp [World.setCell], fun k _ hr => Below.heap_setCell _ _ _ _ (fun e => hr (by rw [e]))⟩

section
variable {W W' : World} {g ty : Nat} {l : List Value}
theorem Blk.lt (h : Blk W g ty l) : g < W.heap.size := (Array.getElem?_eq_some_iff.1 h).1
theorem Blk.cell (h : Blk W g ty l) {i : Nat} {v : Value} (hv : l[i]? = some v) : W.cell? ⟨g, i, none⟩ = some v := by
  rw [cell_of_row W g i _ ty (0, 0) h]; simpa using hv
theorem Blk.frozen (h : Blk W g ty l) (j : Nat) : W.frozen? ⟨g, j, none⟩ = false := by simp [World.frozen?, show W.heap[g]? = _ from h]
theorem Blk.kept (h : Blk W g ty l) {row : Option Nat} (hg : W.grownBy W' row) (hne : some g ≠ row) : Blk W' g ty l := (hg.block g h.lt hne).trans h
theorem Blk.below (h : Blk W g ty l) {B : Nat} (hb : Below B W W') (hB : g < B) : Blk W' g ty l := (hb.block g hB).trans h
theorem Blk.store (h : Blk W g ty l) (i : Nat) (v : Value) : Blk (W.setCell ⟨g, i, none⟩ v) g ty (l.set i v) := by
  rw [setCell_eq_setRow W g i _ ty (0, 0) v h]
  have := setRow_heap W g l.toArray (l.toArray.setIfInBounds i v) ty (0, 0) h
  unfold Blk
  rw [this]
  simp
theorem Blk.other (h : Blk W g ty l) {a : Addr} (ha : g ≠ a.block) (v : Value) : Blk (W.setCell a v) g ty l := h.kept (grown_set W a v) (by simpa using ha)
theorem Blk.alloc (h : Blk W g ty l) (o : Obj) : Blk (W.alloc o) g ty l := h.kept (World.grownBy_alloc W o none) (by simp)
theorem Blk.new (W : World) (ty : Nat) (l : List Value) : Blk (W.alloc (.cells l.toArray ty)) W.heap.size ty l := heap_alloc_new _ _
theorem Blk.drewN (h : Blk W g ty l) (k : Nat) : Blk (W.drewN k) g ty l := h
theorem Blk.drew (h : Blk W g ty l) : Blk W.drew g ty l := h
theorem Blk.range (h : Blk W g ty l) (o : Nat) {cs : List Value} (hc : (l.drop o).take cs.length = cs) : W.rangeAt g o cs := fun j v hv => by
  refine h.cell ?_
  rw [← hc, List.getElem?_take] at hv
  split at hv
  · rw [List.getElem?_drop] at hv; exact hv
  · cases hv
end
theorem below_grown {n : Nat} {a b : World} (h : Below n a b) (hn : a.heap.size ≤ n) : a.grownBy b none := ⟨h.os, h.tape, h.output, h.size, fun k hk _ => h.block k (by omega)⟩
theorem below_size {W W' : World} (h : Below W.heap.size W W') : W.grownBy W' none := below_grown h (Nat.le_refl _)
theorem below_drewN {B : Nat} {a b : World} (h : Below B a b) (k : Nat) : Below B a (b.drewN k) := ⟨h.os, h.tape, h.output, h.size, h.block⟩
theorem grown_trans {a b c : World} {row row' : Option Nat} (h : a.grownBy b row) (k : b.grownBy c row') (hr : row' = row ∨ ∀ g, row' = some g → a.heap.size ≤ g) : a.grownBy c row :=
  ⟨k.os.trans h.os, k.tape.trans h.tape, k.output.trans h.output, Nat.le_trans h.size k.size, fun i hi hne => (k.block i (Nat.lt_of_lt_of_le hi h.size) (by
    rcases hr with rfl | hr
    · exact hne
    · intro e; have := hr i e.symm; omega)).trans (h.block i hi hne)⟩
theorem grown_refl (a : World) (row : Option Nat) : a.grownBy a row := ⟨rfl, rfl, rfl, Nat.le_refl _, fun _ _ _ => rfl⟩
theorem grown_drew {a b : World} {row : Option Nat} (h : a.grownBy b row) : a.grownBy b.drew row := ⟨h.os, h.tape, h.output, h.size, h.block⟩
theorem grown_undrew {a b : World} {row : Option Nat} (h : a.drew.grownBy b row) : a.grownBy b row := ⟨h.os, h.tape, h.output, h.size, h.block⟩

theorem grown_made {a c : World} {o : Obj} {row : Option Nat} (h : (a.alloc o).grownBy c row) : a.grownBy c row :=
  ⟨h.os, h.tape, h.output, Nat.le_trans (by simp) h.size, fun k hk hne => (h.block k (by simp; omega) hne).trans (Below.heap_alloc a o k hk)⟩

theorem set_parts {α : Type} (l : List α) (o : Nat) (v : α) (r : List α) (h : o + (r.length + 1) ≤ l.length) : (l.set o v).take (o + 1) ++ (r ++ (l.set o v).drop (o + 1 + r.length)) = l.take o ++ ((v :: r) ++ l.drop (o + (v :: r).length)) := by
  have e1 : (l.set o v).take (o + 1) = l.take o ++ [v] := by
    rw [List.take_succ_eq_append_getElem (by simp; omega), List.take_set_of_le (Nat.le_refl _)]
    simp
  rw [e1, List.drop_set_of_lt (by omega)]
  simp [Nat.add_assoc, Nat.add_comm 1]
theorem Blk.sets {g ty : Nat} : ∀ (vs : List Value) (o : Nat) (W : World) (l : List Value), Blk W g ty l → o + vs.length ≤ l.length → Blk (W.setCells g o vs) g ty (l.take o ++ (vs ++ l.drop (o + vs.length)))
  | [], o, W, l, h, _ => by simpa [World.setCells] using h
  | v :: r, o, W, l, h, hl => by
    rw [World.setCells]
    have := Blk.sets r (o + 1) _ _ (h.store o v) (by simp at hl ⊢; omega)
    rw [set_parts l o v r (by simpa using hl)] at this
    exact this
theorem grown_sets (g : Nat) : ∀ (vs : List Value) (o : Nat) (w : World), w.grownBy (w.setCells g o vs) (some g)
  | [], _, w => grown_refl w _
  | v :: r, o, w => by
    rw [World.setCells]
    exact grown_trans (grown_set w ⟨g, o, none⟩ v) (grown_sets g r (o + 1) _) (.inl rfl)
theorem below_sets {B g : Nat} (hg : B ≤ g) (vs : List Value) (o : Nat) {a w : World} (h : Below B a w) : Below B a (w.setCells g o vs) :=
  have k := grown_sets g vs o w
  ⟨k.os.trans h.os, k.tape.trans h.tape, k.output.trans h.output, Nat.le_trans h.size k.size, fun i hi => by
    by_cases hw : i < w.heap.size
    · exact (k.block i hw (by simp; omega)).trans (h.block i hi)
    · have e : (w.setCells g o vs).heap.size = w.heap.size := by
        clear k h
        induction vs generalizing o w with
        | nil => rfl
        | cons v r ih => rw [World.setCells, ih _ (by simpa [World.setCell] using hw)]; simp [World.setCell]
      rw [← h.block i hi, Array.getElem?_eq_none (by omega), Array.getElem?_eq_none (by omega)]⟩
theorem Blk.whole {W : World} {g ty : Nat} {l l' : List Value} (h : Blk W g ty l) (hl : l'.length = l.length) : Blk (W.setCells g 0 l') g ty l' := by
  have := Blk.sets l' 0 W l h (by omega)
  simpa [hl] using this


theorem Blk.all {W : World} {g ty : Nat} {l : List Value} (h : Blk W g ty l) : W.rangeAt g 0 l := h.range 0 (by simp)
theorem Blk.there {W : World} {g ty n : Nat} {l : List Value} (h : Blk W g ty l) (hl : l.length = n) : W.there g 0 n := fun j hj => by
  rw [Nat.zero_add]
  exact ⟨by rw [h.cell (List.getElem?_eq_getElem (by rw [hl]; exact hj))]; rfl, h.frozen j⟩
theorem grown_made2 {a c : World} {o : Obj} (h : (a.alloc o).grownBy c (some a.heap.size)) : a.grownBy c none :=
  ⟨h.os, h.tape, h.output, Nat.le_trans (by simp) h.size, fun k hk _ => (h.block k (by simp; omega) (by simp; omega)).trans (Below.heap_alloc a o k hk)⟩
/-- What a function hands back that holds its result in a cell. -/
theorem results_cell {fn : Func} {p : Tmp} {ty : TypeId} (h : fn.results = #[.cell p ty]) {tmps : Array Value} {w : World} {g : Nat} (hp : tmps.getD p undef = .pointer (some ⟨g, 0, none⟩)) {cs : List Value} (hc : w.rangeAt g 0 cs) (d : TypeDesc)
    (hu : Ybaf.prog.underlying ty = some d) (hd : d.isRow = true) (hi : (Ybaf.prog.info? ty).map (·.size) = some cs.length) : (results fn tmps).run Ybaf.prog w = .ok (.agg cs.toArray) w := by
  have hp' : tmps[p]?.getD undef = .pointer (some ⟨g, 0, none⟩) := by simpa using hp
  have hl := run_loadVar_mid w g 0 ty cs d hc hu hd hi
  simp [results, h, hp', asAddr, hl]

/-! ### tokens -/
structure Tk where
  k : Int
  t : ByteArray
/-- A token's four cells. -/
def Tk.cells (x : Tk) (o e : Nat) : List Value := [.int .u8 x.k, .int .i64 (o : Int), .int .i64 (e : Int), .string x.t]
theorem Tk.one (x : Tk) (o e : Nat) : ∀ u ∈ x.cells o e, u.oneCell' = true := by
  intro u hu
  simp only [Tk.cells, List.mem_cons, List.not_mem_nil, or_false] at hu
  rcases hu with rfl | rfl | rfl | rfl <;> rfl
/-- A row of tokens whose first is number i; those below j are numbered. -/
def mx : List Tk → Nat → Nat → List Value
  | [], _, _ => []
  | x :: r, i, j => (if i < j then x.cells i (i + 1) else x.cells 0 0) ++ mx r (i + 1) j
def raw (l : List Tk) : List Value := l.flatMap fun x => x.cells 0 0
theorem raw_length (l : List Tk) : (raw l).length = l.length * 4 := by
  induction l with
  | nil => rfl
  | cons x r ih => simp only [raw, List.flatMap_cons, List.length_append] at *; rw [ih]; simp [Tk.cells]; omega
theorem raw_append (l m : List Tk) : raw (l ++ m) = raw l ++ raw m := by simp [raw]
theorem raw_one (l : List Tk) : ∀ u ∈ raw l, u.oneCell' = true := by
  intro u hu
  obtain ⟨x, _, hx⟩ := List.mem_flatMap.1 hu
  exact x.one 0 0 u hx
theorem mx_raw : ∀ (l : List Tk) (i j : Nat), j ≤ i → mx l i j = raw l
  | [], _, _, _ => rfl
  | x :: r, i, j, h => by
    rw [mx, if_neg (by omega), mx_raw r (i + 1) j (by omega)]
    rfl
theorem mx_length : ∀ (l : List Tk) (i j : Nat), (mx l i j).length = l.length * 4
  | [], _, _ => rfl
  | x :: r, i, j => by
    rw [mx, List.length_append, mx_length r (i + 1) j]
    split <;> simp [Tk.cells] <;> omega
theorem mx_set : ∀ (l : List Tk) (i j : Nat), i ≤ j → j < i + l.length →
    ((mx l i j).set (4 * (j - i) + 1) (.int .i64 (j : Int))).set (4 * (j - i) + 2) (.int .i64 ((j + 1 : Nat) : Int)) = mx l i (j + 1)
  | [], i, j, h, h' => by simp at h'; omega
  | x :: r, i, j, h, h' => by
    by_cases e : i = j
    · subst e
      rw [mx, mx, if_neg (by omega), if_pos (by omega), Nat.sub_self, mx_raw r (i + 1) i (by omega), mx_raw r (i + 1) (i + 1) (by omega)]
      rfl
    · have ih := mx_set r (i + 1) j (by omega) (by simp at h'; omega)
      rw [mx, mx, if_pos (by omega), if_pos (by omega), ← ih]
      have e1 : 4 * (j - i) + 1 = 4 * (j - (i + 1)) + 1 + 4 := by omega
      have e2 : 4 * (j - i) + 2 = 4 * (j - (i + 1)) + 2 + 4 := by omega
      rw [e1, e2]
      rfl
theorem mx_get : ∀ (l : List Tk) (i j m r : Nat) (x : Tk), i + m < j → l[m]? = some x → r < 4 → (mx l i j)[4 * m + r]? = (x.cells (i + m) (i + m + 1))[r]?
  | [], _, _, _, _, _, _, h, _ => by simp at h
  | y :: l, i, j, 0, r, x, h, hx, hr => by
    simp only [List.getElem?_cons_zero, Option.some.injEq] at hx
    subst hx
    rw [mx, if_pos (by omega), List.getElem?_append_left (by simp [Tk.cells]; omega)]
    simp
  | y :: l, i, j, m + 1, r, x, h, hx, hr => by
    rw [List.getElem?_cons_succ] at hx
    have ih := mx_get l (i + 1) j m r x (by omega) hx hr
    have hl : (if i < j then y.cells i (i + 1) else y.cells 0 0).length = 4 := by split <;> rfl
    rw [mx, List.getElem?_append_right (by rw [hl]; omega), hl, show 4 * (m + 1) + r - 4 = 4 * m + r by omega, ih, show i + 1 + m = i + (m + 1) by omega]

/-- A slice of tokens of our own. -/
def Row (w : World) (B : Nat) (v : Value) (l : List Tk) : Prop := w.ownsRow B 28 4 v l.length (raw l)
section
variable {w w' : World} {B : Nat} {v : Value} {l : List Tk}
theorem Row.nil (w : World) (B : Nat) : Row w B (.slice none 0 0) [] := World.ownsRow_nil _ _ _ _
theorem Row.kept {row : Option Nat} (h : Row w B v l) (hg : w.grownBy w' row) (hne : v.ownBlock = none ∨ v.ownBlock ≠ row) : Row w' B v l := World.ownsRow.kept h hg hne
theorem Row.grown (h : Row w B v l) (hg : w.grownBy w' none) : Row w' B v l := h.kept hg (by cases v.ownBlock <;> simp)
theorem Row.alloc (h : Row w B v l) (o : Obj) : Row (w.alloc o) B v l := World.ownsRow.alloc h o
theorem Row.lt (h : Row w B v l) : ∀ k, v.ownBlock = some k → B ≤ k ∧ k < w.heap.size := World.ownsRow.lt h
theorem Row.form (h : Row w B v l) : ∃ a cap, v = .slice a l.length cap := by
  rcases h.2 with ⟨rfl, e⟩ | ⟨g, cap, cur, rfl, _⟩
  · exact ⟨none, 0, by rw [e]⟩
  · exact ⟨_, cap, rfl⟩
end
theorem info28 : (Ybaf.prog.info? 28).map (fun i => (i.zero, i.size, i.bytes)) = some (some (.agg #[.int .u8 0, .int .i64 0, .int .i64 0, .string { data := #[] }]), 4, 40) := by kernel_rfl
theorem size28 : (Ybaf.prog.info? 28).map (·.size) = some 4 := by kernel_rfl
section
variable {w : World} {ops : Array Oper} {rest : List Oper} {o : Oper} {a : Act} {Q : Exit → Act → World → Prop} {K : Act → World → Prop} {B : Nat} {v : Value} {l : List Tk}
theorem wp_app (s x : Operand) (ho : o.op = .call { callee := .builtin .append, args := #[s, x], argTypes := #[25, 25] })
    (hs : a.eval s = v) (hr : Row w B v l) (t : List Tk) (ad : Addr) (c : Nat) (hx : a.eval x = .slice (some ad) t.length c) (hc : ∀ j u, (raw t)[j]? = some u → w.cell? (ad.add j) = some u) (hlen : l.length + t.length ≤ 1000000000000) (hB : B ≤ w.heap.size)
    (h : ∀ v' w', Row w' B v' (l ++ t) → w.grownBy w' v.ownBlock → K (a.put o.dst v') w') : o.wp Ybaf.prog a w K Q := by
  obtain ⟨i, e1, e2, e3, e4⟩ := info_parts info28
  obtain ⟨v', w', hrun, h2, h3, h4, h5⟩ := run_append_own_at (P := Ybaf.prog) w B 25 o.type 28 i _ 4 40 Ybaf.underlying25 e1 e2 e3 e4 rfl (by omega) v l.length (raw l) hr ad t.length c (raw t) (raw_length t) hc (raw_one t) (by simp only [maxLen]; omega) (by omega) hB
  unfold Oper.wp execOp
  simp only [ho, resolve, invoke, builtin, Sem.run_bind, Sem.run_pure, Result.andThen_ok, List.map_toArray, List.map_cons, List.map_nil, hs, hx, hrun]
  refine h v' w' ?_ h3
  unfold Row
  rw [raw_append, List.length_append]
  exact h2
theorem app (hgd : o.guard = none) (s x : Operand) (ho : o.op = .call { callee := .builtin .append, args := #[s, x], argTypes := #[25, 25] })
    (hs : a.eval s = v) (hr : Row w B v l) (t : List Tk) (ad : Addr) (c : Nat) (hx : a.eval x = .slice (some ad) t.length c) (hc : ∀ j u, (raw t)[j]? = some u → w.cell? (ad.add j) = some u) (hlen : l.length + t.length ≤ 1000000000000) (hB : B ≤ w.heap.size)
    (h : ∀ v' w', Row w' B v' (l ++ t) → w.grownBy w' v.ownBlock → wpList Ybaf.prog ops Q rest (a.put o.dst v') w') : wpList Ybaf.prog ops Q (o :: rest) a w :=
  wpList_plain hgd fun _ hK => wp_app s x ho hs hr t ad c hx hc hlen hB fun v' w' h1 h2 => hK _ _ (h v' w' h1 h2)
end
/-- The cells of a block that was made with these tokens. -/
theorem lies_new (w : World) (ty : Nat) (t : List Tk) : ∀ j u, (raw t)[j]? = some u → (w.alloc (.cells (raw t).toArray ty)).cell? ((⟨w.heap.size, 0, none⟩ : Addr).add j) = some u :=
  World.news_of_block (heap_alloc_new _ _)

set_option maxRecDepth 100000 in
set_option maxHeartbeats 4000000 in
theorem tok_any {W : World} (k : Int) (t : ByteArray) :
    Calls Ybaf.prog 4 #[.int .u8 k, .string t] W fun e w' => e = .returned (.agg ((⟨k, t⟩ : Tk).cells 0 0).toArray) ∧ Below W.heap.size W w' := by
  obtain ⟨g, eg⟩ : ∃ g, g = W.heap.size := ⟨_, rfl⟩
  have hb2 : Blk (W.alloc (.cells #[.int .u8 0, .int .i64 0, .int .i64 0, .string { data := #[] }] 28)) g 28 [.int .u8 0, .int .i64 0, .int .i64 0, .string { data := #[] }] := by rw [eg]; exact Blk.new W 28 _
  have hbel : Below W.heap.size W (W.alloc (.cells #[.int .u8 0, .int .i64 0, .int .i64 0, .string { data := #[] }] 28)) := (Below.refl _ W).alloc (Nat.le_refl _) _
  go_enter Ybaf.func4, Ybaf.ntmps4
  go_upto_region 1 with (fail)
  simp only [← eg]
  generalize (W.alloc (.cells #[.int .u8 0, .int .i64 0, .int .i64 0, .string { data := #[] }] 28)) = w2 at hb2 hbel ⊢
  have EG := hide eg
  clear eg
  go_wp2_with (refine wpList_store_mid (by rfl) 28 _ _ (by rfl) g 0 #[.int .u8 k, .int .i64 0, .int .i64 0, .string t] (by rfl) (by rfl) (hb2.there rfl) size28 (all_oneCell_toArray (by simp [Value.oneCell'])) ?_)
  have hb5 := hb2.whole (l' := [.int .u8 k, .int .i64 0, .int .i64 0, .string t]) rfl
  refine bodyPost_ret (results_cell rfl rfl hb5.all _ Ybaf.underlying28 rfl size28) rfl ?_
  exact ⟨rfl, below_sets (by have := EG.out; omega) _ _ hbel⟩

end Go.Proofs.YbulkfhveFmtR.A
