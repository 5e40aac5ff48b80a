/-
  The memory of the law: four blocks of fixed places (the set's head, the two roots, the two lists of places, the two lists of marks) and five rows that the law owns (the pool, two rows of places, two rows of marks), which lie apart.
-/
import Derived.Test.YbulkfhsmBFirst
namespace Go.Proofs.Ybulkfhsm.B
open Go.RowKit

def rowOf (hdr : Value) (vp vx : Nat → Value) : Nat → Value
  | 0 => hdr
  | 1 => vp 0
  | 2 => vp 1
  | 3 => vx 0
  | _ => vx 1

/-- The rows lie apart. -/
def Dis (r : Nat → Value) : Prop := ∀ i j, i < 5 → j < 5 → i ≠ j → ∀ g, (r i).ownBlock = some g → (r j).ownBlock ≠ some g

def putAt {α : Type} (f : Nat → α) (k : Nat) (x : α) : Nat → α := fun j => if j = k then x else f j

theorem putAt_same {α : Type} (f : Nat → α) (k : Nat) (x : α) : putAt f k x k = x := by simp [putAt]
theorem putAt_other {α : Type} (f : Nat → α) {k j : Nat} (x : α) (h : j ≠ k) : putAt f k x j = f j := by simp [putAt, h]

/-- One row is put elsewhere: into its own block, or into a new one. -/
theorem Dis.put {r : Nat → Value} (h : Dis r) {z : Nat} (hz : ∀ j, j < 5 → ∀ g, (r j).ownBlock = some g → g < z) {i : Nat} {v : Value} (hi : i < 5) (hv : v.ownBlock = (r i).ownBlock ∨ ∃ g, v.ownBlock = some g ∧ z ≤ g) : Dis (putAt r i v) := by
  intro a b ha hb hab g hg
  by_cases e1 : a = i
  · subst e1
    rw [putAt_same] at hg
    rw [putAt_other _ _ (Ne.symm hab)]
    rcases hv with hv | ⟨g', hv, hz'⟩
    · exact h a b ha hb hab g (hv ▸ hg)
    · intro e; have := hz b hb g e; rw [hv] at hg; obtain rfl := Option.some.inj hg; omega
  · rw [putAt_other _ _ e1] at hg
    by_cases e2 : b = i
    · subst e2
      rw [putAt_same]
      rcases hv with hv | ⟨g', hv, hz'⟩
      · rw [hv]; exact h a b ha hb hab g hg
      · rw [hv]; intro e; have := hz a ha g hg; obtain rfl := Option.some.inj e; omega
    · rw [putAt_other _ _ e2]; exact h a b ha hb hab g hg

structure Mem (w W : World) (base : Nat) (hdr : Value) (n : Nat) (ns : Nat → Nd) (fr : Int) (t : Nat → Int) (vp vx : Nat → Value) (mp : Nat → List Int) (mx : Nat → List Bool) : Prop where
  pool : Pool W (base + 5) (base + 1) hdr n ns
  free : W.cell? ⟨base + 1, 1, none⟩ = some (.int .i32 fr)
  rng : ∃ q : Int, W.cell? ⟨base + 1, 2, none⟩ = some (.int .u64 q)
  root : ∀ k, k < 2 → W.cell? ⟨base + 2, k, none⟩ = some (.int .i32 (t k))
  mpc : ∀ k, k < 2 → W.cell? ⟨base + 3, k, none⟩ = some (vp k)
  mxc : ∀ k, k < 2 → W.cell? ⟨base + 4, k, none⟩ = some (vx k)
  mpo : ∀ k, k < 2 → W.ownsRow (base + 5) 2 1 (vp k) (mp k).length ((mp k).map (Value.int .i64))
  mxo : ∀ k, k < 2 → W.ownsRow (base + 5) 4 1 (vx k) (mx k).length ((mx k).map Value.bool)
  frz : ∀ b, base + 1 ≤ b → b ≤ base + 4 → ∀ o, W.frozen? ⟨b, o, none⟩ = false
  dis : Dis (rowOf hdr vp vx)
  size : base + 5 ≤ W.heap.size
  below : Below base w W

section
variable {w W : World} {base n : Nat} {hdr : Value} {ns : Nat → Nd} {fr : Int} {t : Nat → Int} {vp vx : Nat → Value} {mp : Nat → List Int} {mx : Nat → List Bool}

theorem Mem.rowBound (h : Mem w W base hdr n ns fr t vp vx mp mx) : ∀ j, j < 5 → ∀ g, (rowOf hdr vp vx j).ownBlock = some g → base + 5 ≤ g ∧ g < W.heap.size := by
  intro j hj g hg
  rcases (show j = 0 ∨ j = 1 ∨ j = 2 ∨ j = 3 ∨ j = 4 by omega) with rfl | rfl | rfl | rfl | rfl
  · exact h.pool.own.lt g hg
  · exact (h.mpo 0 (by omega)).lt g hg
  · exact (h.mpo 1 (by omega)).lt g hg
  · exact (h.mxo 0 (by omega)).lt g hg
  · exact (h.mxo 1 (by omega)).lt g hg

/-- A row that is not among what may have turned. -/
theorem row_kept {X : Nat → Prop} {W W' : World} (hk : Kept X W W') {b e size m : Nat} {v : Value} {xs : List Value} (h : W.ownsRow b e size v m xs) (hx : ∀ g, v.ownBlock = some g → ¬ X g) : W'.ownsRow b e size v m xs := by
  refine ⟨h.1, ?_⟩
  rcases h.2 with hn | ⟨g, cap, cur, rfl, hb, hgg, rest⟩
  · exact .inl hn
  · refine .inr ⟨g, cap, cur, rfl, hb, ?_, rest⟩
    rw [hk.block g (Array.getElem?_eq_some_iff.1 hgg).1 (hx g rfl)]
    exact hgg

theorem Kept.below {X : Nat → Prop} {B : Nat} {w W W' : World} (h : Below B w W) (hk : Kept X W W') (hB : B ≤ W.heap.size) (hX : ∀ k, k < B → ¬ X k) : Below B w W' :=
  h.trans ⟨hk.os, hk.tape, hk.output, hk.size, fun k hkB => hk.block k (by omega) (hX k hkB)⟩

/-- New memory alone. -/
theorem Mem.grown (h : Mem w W base hdr n ns fr t vp vx mp mx) {W' : World} (hk : Kept (fun _ => False) W W') : Mem w W' base hdr n ns fr t vp vx mp mx := by
  have hz := h.size
  have hb : ∀ b, b < W.heap.size → W'.heap[b]? = W.heap[b]? := fun b hb => hk.block b hb (fun e => e)
  refine ⟨⟨row_kept hk h.pool.own (fun _ _ e => e), (cell_at (hb _ (by omega)) 0).trans h.pool.hd, h.pool.ne⟩, (cell_at (hb _ (by omega)) 1).trans h.free, ?_, ?_, ?_, ?_, ?_, ?_, ?_, h.dis, Nat.le_trans hz hk.size, hk.below h.below (by omega) (fun _ _ e => e)⟩
  · obtain ⟨q, hq⟩ := h.rng; exact ⟨q, (cell_at (hb _ (by omega)) 2).trans hq⟩
  · exact fun k hk' => (cell_at (hb _ (by omega)) k).trans (h.root k hk')
  · exact fun k hk' => (cell_at (hb _ (by omega)) k).trans (h.mpc k hk')
  · exact fun k hk' => (cell_at (hb _ (by omega)) k).trans (h.mxc k hk')
  · exact fun k hk' => row_kept hk (h.mpo k hk') (fun _ _ e => e)
  · exact fun k hk' => row_kept hk (h.mxo k hk') (fun _ _ e => e)
  · exact fun b h1 h2 o => (frozen_at (hb b (by omega)) o).trans (h.frz b h1 h2 o)

theorem Mem.drewN (h : Mem w W base hdr n ns fr t vp vx mp mx) (k : Nat) : Mem w (W.drewN k) base hdr n ns fr t vp vx mp mx := h.grown ((Kept.refl _ _).drewN k)
theorem Mem.drew (h : Mem w W base hdr n ns fr t vp vx mp mx) : Mem w W.drew base hdr n ns fr t vp vx mp mx := h.grown (Kept.refl _ _).drew
theorem Mem.alloc (h : Mem w W base hdr n ns fr t vp vx mp mx) (o : Obj) : Mem w (W.alloc o) base hdr n ns fr t vp vx mp mx := h.grown ((Kept.refl _ _).alloc o)

/-- The pool, its head and the root k have turned. -/
theorem Mem.pooled (h : Mem w W base hdr n ns fr t vp vx mp mx) {W' : World} {hdr' : Value} {n' : Nat} {ns' : Nat → Nd} {fr' r : Int} {k : Nat} (_hk2 : k < 2)
    (hP : Pool W' (base + 5) (base + 1) hdr' n' ns') (hk : Kept (fun b => hdr.ownBlock = some b ∨ b = base + 1 ∨ b = base + 2) W W')
    (hf : W'.cell? ⟨base + 1, 1, none⟩ = some (.int .i32 fr')) (hr : ∃ q : Int, W'.cell? ⟨base + 1, 2, none⟩ = some (.int .u64 q))
    (ho : ∀ o, o ≠ k → W'.cell? ⟨base + 2, o, none⟩ = W.cell? ⟨base + 2, o, none⟩) (hR : W'.cell? ⟨base + 2, k, none⟩ = some (.int .i32 r))
    (z1 : ∀ o, W'.frozen? ⟨base + 1, o, none⟩ = false) (z2 : ∀ o, W'.frozen? ⟨base + 2, o, none⟩ = false) (hl : hdr'.ownBlock = hdr.ownBlock ∨ ∃ g, hdr'.ownBlock = some g ∧ W.heap.size ≤ g) :
    Mem w W' base hdr' n' ns' fr' (putAt t k r) vp vx mp mx := by
  have hz := h.size
  have hB := h.rowBound
  have hb : ∀ b, b < W.heap.size → base + 3 ≤ b → hdr.ownBlock ≠ some b → W'.heap[b]? = W.heap[b]? := fun b hb h1 h2 => hk.block b hb (by rintro (e | e | e); exact h2 e; omega; omega)
  have n3 : hdr.ownBlock ≠ some (base + 3) := fun e => by have := (hB 0 (by omega) _ e).1; omega
  have n4 : hdr.ownBlock ≠ some (base + 4) := fun e => by have := (hB 0 (by omega) _ e).1; omega
  have rk : ∀ j, j < 5 → j ≠ 0 → ∀ g, (rowOf hdr vp vx j).ownBlock = some g → ¬ (hdr.ownBlock = some g ∨ g = base + 1 ∨ g = base + 2) := fun j hj h0 g hg => by
    have := (hB j hj g hg).1
    rintro (e | e | e)
    · exact h.dis j 0 hj (by omega) h0 g hg e
    · omega
    · omega
  refine ⟨hP, hf, hr, ?_, ?_, ?_, ?_, ?_, ?_, ?_, Nat.le_trans hz hk.size, hk.below h.below (by omega) ?_⟩
  · intro j hj
    by_cases e : j = k
    · subst e; rw [putAt_same]; exact hR
    · rw [putAt_other _ _ e, ho j e]; exact h.root j hj
  · exact fun j hj => (cell_at (hb _ (by omega) (by omega) n3) j).trans (h.mpc j hj)
  · exact fun j hj => (cell_at (hb _ (by omega) (by omega) n4) j).trans (h.mxc j hj)
  · intro j hj
    rcases (show j = 0 ∨ j = 1 by omega) with rfl | rfl
    · exact row_kept hk (h.mpo 0 hj) (rk 1 (by omega) (by omega))
    · exact row_kept hk (h.mpo 1 hj) (rk 2 (by omega) (by omega))
  · intro j hj
    rcases (show j = 0 ∨ j = 1 by omega) with rfl | rfl
    · exact row_kept hk (h.mxo 0 hj) (rk 3 (by omega) (by omega))
    · exact row_kept hk (h.mxo 1 hj) (rk 4 (by omega) (by omega))
  · intro b h1 h2 o
    rcases (show b = base + 1 ∨ b = base + 2 ∨ b = base + 3 ∨ b = base + 4 by omega) with rfl | rfl | rfl | rfl
    · exact z1 o
    · exact z2 o
    · exact (frozen_at (hb _ (by omega) (by omega) n3) o).trans (h.frz _ h1 h2 o)
    · exact (frozen_at (hb _ (by omega) (by omega) n4) o).trans (h.frz _ h1 h2 o)
  · have := h.dis.put (fun j hj g hg => (hB j hj g hg).2) (i := 0) (v := hdr') (by omega) hl
    intro a b ha hb hab g hg
    have q : ∀ j, j < 5 → rowOf hdr' vp vx j = putAt (rowOf hdr vp vx) 0 hdr' j := fun j hj => by
      rcases (show j = 0 ∨ j = 1 ∨ j = 2 ∨ j = 3 ∨ j = 4 by omega) with rfl | rfl | rfl | rfl | rfl <;> rfl
    rw [q a ha] at hg
    rw [q b hb]
    exact this a b ha hb hab g hg
  · intro b hb' e
    rcases e with e | e | e
    · have := (hB 0 (by omega) _ e).1; omega
    · omega
    · omega

/-- One row of places has turned. -/
theorem Mem.placed (h : Mem w W base hdr n ns fr t vp vx mp mx) {W1 : World} {k : Nat} (hk2 : k < 2) {v : Value} {xs : List Int} (hg : W.grownBy W1 (vp k).ownBlock)
    (own : W1.ownsRow (base + 5) 2 1 v xs.length (xs.map (Value.int .i64))) (hl : v.ownBlock = (vp k).ownBlock ∨ ∃ g, v.ownBlock = some g ∧ W.heap.size ≤ g) :
    Mem w (W1.setCell ⟨base + 3, k, none⟩ v) base hdr n ns fr t (putAt vp k v) vx (putAt mp k xs) mx := by
  have hz := h.size
  have hB := h.rowBound
  have ek : rowOf hdr vp vx (1 + k) = vp k := by rcases (show k = 0 ∨ k = 1 by omega) with rfl | rfl <;> rfl
  have hk : Kept (fun b => (vp k).ownBlock = some b ∨ b = base + 3) W (W1.setCell ⟨base + 3, k, none⟩ v) :=
    (Kept.grown hg fun b e => .inl e).trans (Kept.setCell (X := fun b => (vp k).ownBlock = some b ∨ b = base + 3) _ _ _ (.inr rfl))
  have nk : ∀ b, b ≤ base + 4 → (vp k).ownBlock ≠ some b := fun b hb e => by have := (hB (1 + k) (by omega) b (by rw [ek]; exact e)).1; omega
  have hb : ∀ b, b ≤ base + 4 → b ≠ base + 3 → (W1.setCell ⟨base + 3, k, none⟩ v).heap[b]? = W.heap[b]? := fun b hb hn => hk.block b (by omega) (by rintro (e | e); exact nk b hb e; exact hn e)
  have h3 : W1.heap[base + 3]? = W.heap[base + 3]? := hg.block _ (by omega) (fun e => nk (base + 3) (by omega) e.symm)
  have rk : ∀ j, j < 5 → j ≠ 1 + k → ∀ g, (rowOf hdr vp vx j).ownBlock = some g → ¬ ((vp k).ownBlock = some g ∨ g = base + 3) := fun j hj h0 g hg' => by
    have := (hB j hj g hg').1
    rintro (e | e)
    · exact h.dis j (1 + k) hj (by omega) h0 g hg' (by rw [ek]; exact e)
    · omega
  refine ⟨⟨row_kept hk h.pool.own (rk 0 (by omega) (by omega)), (cell_at (hb _ (by omega) (by omega)) 0).trans h.pool.hd, h.pool.ne⟩, (cell_at (hb _ (by omega) (by omega)) 1).trans h.free, ?_, ?_, ?_, ?_, ?_, ?_, ?_, ?_, Nat.le_trans hz hk.size, hk.below h.below (by omega) ?_⟩
  · obtain ⟨q, hq⟩ := h.rng; exact ⟨q, (cell_at (hb _ (by omega) (by omega)) 2).trans hq⟩
  · exact fun j hj => (cell_at (hb _ (by omega) (by omega)) j).trans (h.root j hj)
  · intro j hj
    by_cases e : j = k
    · subst e; rw [putAt_same]; exact World.cell?_setCell_same _ _ _ ((cell_at h3 j).trans (h.mpc j hj))
    · rw [putAt_other _ _ e, World.cell?_setCell_other _ _ _ _ (by simp <;> omega)]; exact (cell_at h3 j).trans (h.mpc j hj)
  · exact fun j hj => (cell_at (hb _ (by omega) (by omega)) j).trans (h.mxc j hj)
  · intro j hj
    by_cases e : j = k
    · subst e
      rw [putAt_same, putAt_same]
      refine own.kept (row := some (base + 3)) ⟨rfl, rfl, rfl, by simp, fun i _ hi => Below.heap_setCell _ _ _ _ (fun e => hi (by rw [e]))⟩ (.inr fun e => ?_)
      have := (own.lt _ e).1; omega
    · rw [putAt_other _ _ e, putAt_other _ _ e]
      refine row_kept hk (h.mpo j hj) ?_
      have ej : rowOf hdr vp vx (1 + j) = vp j := by rcases (show j = 0 ∨ j = 1 by omega) with rfl | rfl <;> rfl
      rw [← ej]; exact rk (1 + j) (by omega) (by omega)
  · intro j hj
    have ej : rowOf hdr vp vx (3 + j) = vx j := by rcases (show j = 0 ∨ j = 1 by omega) with rfl | rfl <;> rfl
    refine row_kept hk (h.mxo j hj) ?_
    rw [← ej]; exact rk (3 + j) (by omega) (by omega)
  · intro b h1 h2 o
    by_cases e : b = base + 3
    · subst e; rw [World.frozen?_setCell]; exact (frozen_at h3 o).trans (h.frz _ h1 h2 o)
    · exact (frozen_at (hb b h2 e) o).trans (h.frz b h1 h2 o)
  · have := h.dis.put (fun j hj g hg => (hB j hj g hg).2) (i := 1 + k) (v := v) (by omega) (by rw [ek]; exact hl)
    intro a b ha hb hab g hg
    have q : ∀ j, j < 5 → rowOf hdr (putAt vp k v) vx j = putAt (rowOf hdr vp vx) (1 + k) v j := fun j hj => by
      rcases (show k = 0 ∨ k = 1 by omega) with rfl | rfl <;> rcases (show j = 0 ∨ j = 1 ∨ j = 2 ∨ j = 3 ∨ j = 4 by omega) with rfl | rfl | rfl | rfl | rfl <;> rfl
    rw [q a ha] at hg
    rw [q b hb]
    exact this a b ha hb hab g hg
  · intro b hb' e
    rcases e with e | e
    · exact nk b (by omega) e
    · omega

/-- One row of marks has turned. -/
theorem Mem.marked (h : Mem w W base hdr n ns fr t vp vx mp mx) {W1 : World} {k : Nat} (hk2 : k < 2) {v : Value} {xs : List Bool} (hg : W.grownBy W1 (vx k).ownBlock)
    (own : W1.ownsRow (base + 5) 4 1 v xs.length (xs.map Value.bool)) (hl : v.ownBlock = (vx k).ownBlock ∨ ∃ g, v.ownBlock = some g ∧ W.heap.size ≤ g) :
    Mem w (W1.setCell ⟨base + 4, k, none⟩ v) base hdr n ns fr t vp (putAt vx k v) mp (putAt mx k xs) := by
  have hz := h.size
  have hB := h.rowBound
  have ek : rowOf hdr vp vx (3 + k) = vx k := by rcases (show k = 0 ∨ k = 1 by omega) with rfl | rfl <;> rfl
  have hk : Kept (fun b => (vx k).ownBlock = some b ∨ b = base + 4) W (W1.setCell ⟨base + 4, k, none⟩ v) :=
    (Kept.grown hg fun b e => .inl e).trans (Kept.setCell (X := fun b => (vx k).ownBlock = some b ∨ b = base + 4) _ _ _ (.inr rfl))
  have nk : ∀ b, b ≤ base + 4 → (vx k).ownBlock ≠ some b := fun b hb e => by have := (hB (3 + k) (by omega) b (by rw [ek]; exact e)).1; omega
  have hb : ∀ b, b ≤ base + 3 → (W1.setCell ⟨base + 4, k, none⟩ v).heap[b]? = W.heap[b]? := fun b hb => hk.block b (by omega) (by rintro (e | e); exact nk b (by omega) e; omega)
  have h3 : W1.heap[base + 4]? = W.heap[base + 4]? := hg.block _ (by omega) (fun e => nk (base + 4) (by omega) e.symm)
  have rk : ∀ j, j < 5 → j ≠ 3 + k → ∀ g, (rowOf hdr vp vx j).ownBlock = some g → ¬ ((vx k).ownBlock = some g ∨ g = base + 4) := fun j hj h0 g hg' => by
    have := (hB j hj g hg').1
    rintro (e | e)
    · exact h.dis j (3 + k) hj (by omega) h0 g hg' (by rw [ek]; exact e)
    · omega
  refine ⟨⟨row_kept hk h.pool.own (rk 0 (by omega) (by omega)), (cell_at (hb _ (by omega)) 0).trans h.pool.hd, h.pool.ne⟩, (cell_at (hb _ (by omega)) 1).trans h.free, ?_, ?_, ?_, ?_, ?_, ?_, ?_, ?_, Nat.le_trans hz hk.size, hk.below h.below (by omega) ?_⟩
  · obtain ⟨q, hq⟩ := h.rng; exact ⟨q, (cell_at (hb _ (by omega)) 2).trans hq⟩
  · exact fun j hj => (cell_at (hb _ (by omega)) j).trans (h.root j hj)
  · exact fun j hj => (cell_at (hb _ (by omega)) j).trans (h.mpc j hj)
  · intro j hj
    by_cases e : j = k
    · subst e; rw [putAt_same]; exact World.cell?_setCell_same _ _ _ ((cell_at h3 j).trans (h.mxc j hj))
    · rw [putAt_other _ _ e, World.cell?_setCell_other _ _ _ _ (by simp <;> omega)]; exact (cell_at h3 j).trans (h.mxc j hj)
  · intro j hj
    have ej : rowOf hdr vp vx (1 + j) = vp j := by rcases (show j = 0 ∨ j = 1 by omega) with rfl | rfl <;> rfl
    refine row_kept hk (h.mpo j hj) ?_
    rw [← ej]; exact rk (1 + j) (by omega) (by omega)
  · intro j hj
    by_cases e : j = k
    · subst e
      rw [putAt_same, putAt_same]
      refine own.kept (row := some (base + 4)) ⟨rfl, rfl, rfl, by simp, fun i _ hi => Below.heap_setCell _ _ _ _ (fun e => hi (by rw [e]))⟩ (.inr fun e => ?_)
      have := (own.lt _ e).1; omega
    · rw [putAt_other _ _ e, putAt_other _ _ e]
      refine row_kept hk (h.mxo j hj) ?_
      have ej : rowOf hdr vp vx (3 + j) = vx j := by rcases (show j = 0 ∨ j = 1 by omega) with rfl | rfl <;> rfl
      rw [← ej]; exact rk (3 + j) (by omega) (by omega)
  · intro b h1 h2 o
    by_cases e : b = base + 4
    · subst e; rw [World.frozen?_setCell]; exact (frozen_at h3 o).trans (h.frz _ h1 h2 o)
    · exact (frozen_at (hb b (by omega)) o).trans (h.frz b h1 h2 o)
  · have := h.dis.put (fun j hj g hg => (hB j hj g hg).2) (i := 3 + k) (v := v) (by omega) (by rw [ek]; exact hl)
    intro a b ha hb hab g hg
    have q : ∀ j, j < 5 → rowOf hdr vp (putAt vx k v) j = putAt (rowOf hdr vp vx) (3 + k) v j := fun j hj => by
      rcases (show k = 0 ∨ k = 1 by omega) with rfl | rfl <;> rcases (show j = 0 ∨ j = 1 ∨ j = 2 ∨ j = 3 ∨ j = 4 by omega) with rfl | rfl | rfl | rfl | rfl <;> rfl
    rw [q a ha] at hg
    rw [q b hb]
    exact this a b ha hb hab g hg
  · intro b hb' e
    rcases e with e | e
    · exact nk b (by omega) e
    · omega
end
end Go.Proofs.Ybulkfhsm.B
