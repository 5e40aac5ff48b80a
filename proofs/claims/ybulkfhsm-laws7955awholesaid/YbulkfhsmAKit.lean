/-
  The rows of the law A as the walks see them: blocks that are known whole.
-/
import Derived.Test.YbulkfhsmProg
import Derived.WalkKit
import Derived.WalkSpells
import Derived.Deep.QuietTactic
import Derived.BigQuiet
import Derived.Deep.DrawnRows
import Derived.Deep.CutRange
import Derived.Deep.CutBlock
import Derived.Deep.AppendLies
import Derived.OwnWalk
namespace Go.Proofs.Ybulkfhsm.A
open Go.RowKit

theorem hide {p : Prop} (h : p) : Hid p := h

/-! ### a block that is known whole -/
def Blk (W : World) (g ty : Nat) (l : List Value) : Prop := W.heap[g]? = some (.cells l.toArray ty (0, 0))

theorem grown_set (w : World) (a : Addr) (v : Value) : w.grownBy (w.setCell a v) (some a.block) :=
  ⟨rfl, rfl, rfl, by simp [World.setCell], fun k _ hr => Below.heap_setCell _ _ _ _ (fun e => hr (by rw [e]))⟩

section
variable {W W' : World} {g ty : Nat} {l : List Value}
theorem Blk.lt (h : Blk W g ty l) : g < W.heap.size := (Array.getElem?_eq_some_iff.1 h).1
theorem Blk.cell (h : Blk W g ty l) {i : Nat} {v : Value} (hv : l[i]? = some v) : W.cell? ⟨g, i, none⟩ = some v := by
  rw [cell_of_row W g i _ ty (0, 0) h]; simpa using hv
theorem Blk.frozen (h : Blk W g ty l) (j : Nat) : W.frozen? ⟨g, j, none⟩ = false := by simp [World.frozen?, show W.heap[g]? = _ from h]
theorem Blk.kept (h : Blk W g ty l) {row : Option Nat} (hg : W.grownBy W' row) (hne : some g ≠ row) : Blk W' g ty l := (hg.block g h.lt hne).trans h
theorem Blk.below (h : Blk W g ty l) {B : Nat} (hb : Below B W W') (hB : g < B) : Blk W' g ty l := (hb.block g hB).trans h
theorem Blk.store (h : Blk W g ty l) (i : Nat) (v : Value) : Blk (W.setCell ⟨g, i, none⟩ v) g ty (l.set i v) := by
  rw [setCell_eq_setRow W g i _ ty (0, 0) v h]
  have := setRow_heap W g l.toArray (l.toArray.setIfInBounds i v) ty (0, 0) h
  unfold Blk
  rw [this]
  simp
theorem Blk.other (h : Blk W g ty l) {a : Addr} (ha : g ≠ a.block) (v : Value) : Blk (W.setCell a v) g ty l := h.kept (grown_set W a v) (by simpa using ha)
theorem Blk.alloc (h : Blk W g ty l) (o : Obj) : Blk (W.alloc o) g ty l := h.kept (World.grownBy_alloc W o none) (by simp)
theorem Blk.new (W : World) (ty : Nat) (l : List Value) : Blk (W.alloc (.cells l.toArray ty)) W.heap.size ty l := heap_alloc_new _ _
theorem Blk.drewN (h : Blk W g ty l) (k : Nat) : Blk (W.drewN k) g ty l := h
theorem Blk.ne {g' ty' : Nat} {l' : List Value} (h : Blk W g ty l) (h' : Blk W g' ty' l') (ht : ty ≠ ty') : g ≠ g' := by
  rintro rfl
  unfold Blk at h h'
  rw [h] at h'
  simp at h'
  exact ht h'.2
end

theorem full_row {W : World} {lo e k g n : Nat} {xs : List Value} (h : W.ownsRow lo e k (.slice (some ⟨g, 0, none⟩) n n) n xs) : Blk W g e xs := by
  rcases h.2 with ⟨h1, _⟩ | ⟨g', cap, cur, h1, _, hh, _, _, hs, ht⟩
  · cases h1
  · cases h1
    unfold Blk
    rw [hh]
    congr 2
    rw [← ht, List.take_of_length_le (by simp [hs])]

/-! ### rows of one cell an element -/
def rowF (f : Nat → Value) (n : Nat) : List Value := (List.range n).map f
def putV (f : Nat → Value) (i : Nat) (v : Value) : Nat → Value := fun j => if j = i then v else f j

theorem rowF_len (f : Nat → Value) (n : Nat) : (rowF f n).length = n := by simp [rowF]
theorem rowF_get (f : Nat → Value) {n i : Nat} (hi : i < n) : (rowF f n)[i]? = some (f i) := by simp [rowF, hi]
theorem rowF_congr {f f' : Nat → Value} {n : Nat} (h : ∀ j, j < n → f j = f' j) : rowF f n = rowF f' n := by
  unfold rowF
  exact List.map_congr_left fun j hj => h j (List.mem_range.1 hj)
theorem rowF_set (f : Nat → Value) {n i : Nat} (v : Value) : (rowF f n).set i v = rowF (putV f i v) n := by
  apply List.ext_getElem?
  intro j
  by_cases hj : j < n
  · rw [rowF_get _ hj, List.getElem?_set]
    by_cases e : i = j
    · subst e; simp [rowF_len, hj, putV]
    · rw [if_neg e, rowF_get _ hj]; simp [putV, show ¬ j = i from fun e' => e e'.symm]
  · rw [List.getElem?_eq_none (by simp [rowF_len]; omega), List.getElem?_eq_none (by simp [rowF_len]; omega)]
theorem rowF_succ (f : Nat → Value) (n : Nat) : rowF f (n + 1) = rowF f n ++ [f n] := by simp [rowF, List.range_succ]
theorem rowF_const (v : Value) (n : Nat) : rowF (fun _ => v) n = List.replicate n v := by unfold rowF; rw [List.map_const']; simp
theorem rowF_one {f : Nat → Value} (h : ∀ i, (f i).oneCell' = true) (n : Nat) : ∀ v ∈ rowF f n, v.oneCell' = true := by
  intro v hv
  simp only [rowF, List.mem_map] at hv
  obtain ⟨i, _, rfl⟩ := hv
  exact h i

theorem made_row {W : World} {lo e g n : Nat} {z : Value} (hz : z.cells = #[z]) (h : W.ownsRow lo e 1 (.slice (some ⟨g, 0, none⟩) n n) n (madeCells z.cells (n * 1)).toList) : Blk W g e (rowF (fun _ => z) n) := by
  rw [hz, Nat.mul_one, toList_madeCells_one] at h
  rw [rowF_const]
  exact full_row h

section
variable {W : World} {g ty n : Nat} {f : Nat → Value}
theorem Blk.at (h : Blk W g ty (rowF f n)) {i : Nat} (hi : i < n) : W.cell? ⟨g, i, none⟩ = some (f i) := h.cell (rowF_get f hi)
theorem Blk.put (h : Blk W g ty (rowF f n)) (i : Nat) (v : Value) : Blk (W.setCell ⟨g, i, none⟩ v) g ty (rowF (putV f i v) n) := by
  rw [← rowF_set f v]; exact h.store i v
end

/-! ### rows of k cells an element -/
def flatK (f : Nat → List Value) : Nat → List Value
  | 0 => []
  | n + 1 => flatK f n ++ f n

theorem flatK_len {f : Nat → List Value} {k : Nat} (hk : ∀ i, (f i).length = k) (n : Nat) : (flatK f n).length = n * k := by
  induction n with
  | zero => simp [flatK]
  | succ n ih => simp [flatK, ih, hk, Nat.succ_mul]
theorem flatK_get {f : Nat → List Value} {k : Nat} (hk : ∀ i, (f i).length = k) {n i j : Nat} (hi : i < n) (hj : j < k) : (flatK f n)[i * k + j]? = (f i)[j]? := by
  induction n with
  | zero => omega
  | succ n ih =>
    simp only [flatK]
    by_cases h : i < n
    · rw [List.getElem?_append_left (by
        rw [flatK_len hk]
        have : i * k + k ≤ n * k := by rw [← Nat.succ_mul]; exact Nat.mul_le_mul_right _ h
        omega)]
      exact ih h
    · obtain rfl : i = n := by omega
      rw [List.getElem?_append_right (by rw [flatK_len hk]; omega), flatK_len hk]
      congr 1; omega
theorem flatK_congr {f f' : Nat → List Value} {n : Nat} (h : ∀ j, j < n → f j = f' j) : flatK f n = flatK f' n := by
  induction n with
  | zero => rfl
  | succ n ih => simp only [flatK]; rw [ih (fun j hj => h j (by omega)), h n (by omega)]
theorem flatK_set {f : Nat → List Value} {k : Nat} (hk : ∀ i, (f i).length = k) {n i j : Nat} (v : Value) (hi : i < n) (hj : j < k) : (flatK f n).set (i * k + j) v = flatK (fun q => if q = i then (f i).set j v else f q) n := by
  induction n with
  | zero => omega
  | succ n ih =>
    simp only [flatK]
    by_cases h : i < n
    · have h1 : i * k + k ≤ n * k := by rw [← Nat.succ_mul]; exact Nat.mul_le_mul_right _ h
      rw [List.set_append_left _ _ (by rw [flatK_len hk]; omega), ih h, if_neg (by omega : ¬ n = i)]
    · obtain rfl : i = n := by omega
      rw [List.set_append_right _ _ (by rw [flatK_len hk]; omega), flatK_len hk, if_pos rfl]
      congr 1
      · exact flatK_congr fun q hq => by rw [if_neg (by omega)]
      · congr 1; omega

/-- The operation of a history. -/
structure Opn where
  kind : Int
  txn : Int
  obj : ByteArray
def Opn.cells (x : Opn) : List Value := [.int .u8 x.kind, .int .i32 x.txn, .string x.obj]

theorem info21 : (Yba.prog.info? 21).map (fun i => (i.zero, i.size, i.bytes)) = some (some (.int .i32 0), 1, 4) := by kernel_rfl
theorem info25 : (Yba.prog.info? 25).map (fun i => (i.zero, i.size, i.bytes)) = some (some (.int .i32 0), 1, 4) := by kernel_rfl
theorem info4 : (Yba.prog.info? 4).map (fun i => (i.zero, i.size, i.bytes)) = some (some (.bool false), 1, 1) := by kernel_rfl
theorem info32 : (Yba.prog.info? 32).map (fun i => (i.zero, i.size, i.bytes)) = some (some (.agg #[.int .u8 0, .int .i32 0, .string ByteArray.empty]), 3, 24) := by kernel_rfl
theorem info45 : (Yba.prog.info? 45).map (fun i => (i.zero, i.size, i.bytes)) = some (some (.agg #[.int .i32 0, .int .i32 0, .int .i32 0, .int .u8 0]), 4, 16) := by kernel_rfl

/-! ### what the law is about -/
/-- The data: N operations over nt transactions. -/
structure Dat where
  N : Nat
  nt : Nat
  objects : Nat
  K : Nat → Int
  X : Nat → Int
  T : Nat → Nat
  V : Nat → Int
  O : Nat → ByteArray

structure Dat.Ok (d : Dat) : Prop where
  hN : d.N ≤ 4096
  hnt : d.nt ≤ 4096
  pos : 0 < d.nt
  hob : d.objects ≤ 9
  hT : ∀ i, i < d.N → d.T i < d.nt
  inj : ∀ s t, s < d.nt → t < d.nt → d.V s = d.V t → s = t
  hX : ∀ i, i < d.N → d.X i < (d.objects : Int)
  hX0 : ∀ i, i < d.N → d.K i = 1 ∨ d.K i = 2 → 0 ≤ d.X i

def Dat.op (d : Dat) (i : Nat) : Opn := ⟨d.K i, d.V (d.T i), d.O i⟩

/-- Where the history and its numbering lie. -/
structure Lies (W : World) (d : Dat) (gh go gt gv : Nat) : Prop where
  ck : ∀ i, i < d.N → W.cell? ⟨gh, i * 3, none⟩ = some (.int .u8 (d.K i))
  ct : ∀ i, i < d.N → W.cell? ⟨gh, i * 3 + 1, none⟩ = some (.int .i32 (d.V (d.T i)))
  co : ∀ i, i < d.N → W.cell? ⟨gh, i * 3 + 2, none⟩ = some (.string (d.O i))
  ob : ∀ i, i < d.N → W.cell? ⟨go, i, none⟩ = some (.int .i32 (d.X i))
  tx : ∀ i, i < d.N → W.cell? ⟨gt, i, none⟩ = some (.int .i32 (d.T i : Int))
  tv : ∀ t, t < d.nt → W.cell? ⟨gv, t, none⟩ = some (.int .i32 (d.V t))

theorem cell_below {W W' : World} (hb : Below W.heap.size W W') {a : Addr} {v : Value} (h : W.cell? a = some v) : W'.cell? a = some v :=
  (World.cell?_of_block (hb.block a.block (World.block_lt_of_cell? _ _ h))).trans h

theorem Lies.below {W W' : World} {d : Dat} {gh go gt gv : Nat} (h : Lies W d gh go gt gv) (hb : Below W.heap.size W W') : Lies W' d gh go gt gv :=
  ⟨fun i hi => cell_below hb (h.ck i hi), fun i hi => cell_below hb (h.ct i hi), fun i hi => cell_below hb (h.co i hi), fun i hi => cell_below hb (h.ob i hi), fun i hi => cell_below hb (h.tx i hi), fun i hi => cell_below hb (h.tv i hi)⟩

/-- The numbering as the functions are handed it. -/
def Dat.agg (d : Dat) (go gt gv cv : Nat) : Value :=
  .agg #[.slice (some ⟨go, 0, none⟩) d.N d.N, .int .i64 (d.objects : Int), .slice (some ⟨gt, 0, none⟩) d.N d.N, .slice (some ⟨gv, 0, none⟩) d.nt cv]

/-! ### which transactions are left out -/
def Dat.ab (d : Dat) (k t : Nat) : Bool := (List.range k).any fun i => d.K i == 4 && d.T i == t

theorem Dat.ab_succ (d : Dat) (k t : Nat) : d.ab (k + 1) t = (d.ab k t || (d.K k == 4 && d.T k == t)) := by
  simp [Dat.ab, List.range_succ, List.any_append]
end Go.Proofs.Ybulkfhsm.A
