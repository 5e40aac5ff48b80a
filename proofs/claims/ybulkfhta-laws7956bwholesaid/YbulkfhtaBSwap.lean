/-
  items.Less, items.Swap, (*items).Push.
-/
import Derived.Test.YbulkfhtaBHeap
namespace Go.Proofs.Ybulkfhta.B
open Go.RowKit
attribute [local go_sem ↓] Go.wp_at_zero Go.wp_at_succ

def ptr (b : Nat) : Value := .pointer (some ⟨b, 0, none⟩)
def rowP (p : Nat → Nat) (k : Nat) : List Value := (List.range k).map fun i => ptr (p i)
def putN (p : Nat → Nat) (i b : Nat) : Nat → Nat := fun j => if j = i then b else p j

theorem rowP_len (p : Nat → Nat) (k : Nat) : (rowP p k).length = k := by simp [rowP]
theorem rowP_get (p : Nat → Nat) {k i : Nat} (hi : i < k) : (rowP p k)[i]? = some (ptr (p i)) := by simp [rowP, hi]
theorem rowP_congr {p p' : Nat → Nat} {k : Nat} (h : ∀ j, j < k → p j = p' j) : rowP p k = rowP p' k := by
  unfold rowP
  exact List.map_congr_left fun j hj => by rw [h j (List.mem_range.1 hj)]
theorem rowP_set (p : Nat → Nat) {k i : Nat} (b : Nat) : (rowP p k).set i (ptr b) = rowP (putN p i b) k := by
  apply List.ext_getElem?
  intro j
  by_cases hj : j < k
  · rw [rowP_get _ hj, List.getElem?_set]
    by_cases e : i = j
    · subst e; simp [rowP_len, hj, putN]
    · rw [if_neg e, rowP_get _ hj]; simp [putN, show ¬ j = i from fun e' => e e'.symm]
  · rw [List.getElem?_eq_none (by simp [rowP_len]; omega), List.getElem?_eq_none (by simp [rowP_len]; omega)]
theorem rowP_succ (p : Nat → Nat) (k : Nat) : rowP p (k + 1) = rowP p k ++ [ptr (p k)] := by simp [rowP, List.range_succ]

structure Hp (W : World) (hb ho : Nat) (hdr : Value) (k : Nat) (p : Nat → Nat) (D : Nat → Int) : Prop where
  hd : W.cell? ⟨hb, ho, none⟩ = some hdr
  fz : W.frozen? ⟨hb, ho, none⟩ = false
  own : W.ownsRow (hb + 1) 51 1 hdr k (rowP p k)
  snd : ∀ i, i < k → Snd W (p i) (D (p i))
  up : ∀ i, i < k → hb < p i

theorem Snd.grown {W W' : World} {b : Nat} {n : Int} {row : Option Nat} (h : Snd W b n) (hg : W.grownBy W' row) (hne : some b ≠ row) : Snd W' b n := by
  obtain ⟨nm, ag, ix, h⟩ := h
  exact ⟨nm, ag, ix, h.kept hg hne⟩

theorem Hp.grown {W W' : World} {hb ho k : Nat} {hdr : Value} {p : Nat → Nat} {D : Nat → Int} (h : Hp W hb ho hdr k p D) (hg : W.grownBy W' none) : Hp W' hb ho hdr k p D :=
  ⟨hg.cell h.hd (by simp), (World.frozen?_of_block (hg.block hb (World.block_lt_of_cell? _ _ h.hd) (by simp))).trans h.fz, h.own.kept hg (by cases hdr.ownBlock <;> simp), fun i hi => (h.snd i hi).grown hg (by simp), h.up⟩

theorem Hp.cell {W : World} {hb ho k g cap : Nat} {p : Nat → Nat} {D : Nat → Int} (h : Hp W hb ho (.slice (some ⟨g, 0, none⟩) k cap) k p D) {i : Nat} (hi : i < k) : W.cell? ⟨g, i, none⟩ = some (.pointer (some ⟨p i, 0, none⟩)) := by
  rw [World.ownsRow.cellAt h.own i (by omega), rowP_get p hi]; rfl

set_option maxRecDepth 100000 in
set_option maxHeartbeats 2000000 in
theorem less_any {W : World} {hb ho k i j : Nat} {hdr : Value} {p : Nat → Nat} {D : Nat → Int} (h : Hp W hb ho hdr k p D) (hi : i < k) (hj : j < k) :
    Calls Yba.prog 50 #[hdr, .int .i64 (i : Int), .int .i64 (j : Int)] W fun e w' => e = .returned (.bool (decide (D (p i) < D (p j)))) ∧ Below W.heap.size W w' := by
  obtain ⟨g, cap, rfl, hg⟩ := row_form h.own (by omega)
  have ci := h.cell hi
  have cj := h.cell hj
  have i0 : (0 : Int) ≤ (i : Int) := by omega
  have j0 : (0 : Int) ≤ (j : Int) := by omega
  have i1 : (i : Int) < (k : Int) := by omega
  have j1 : (j : Int) < (k : Int) := by omega
  have hcon := sbefore_any (W := W.drew) (show Snd W.drew _ _ from h.snd i hi) (show Snd W.drew _ _ from h.snd j hj)
  generalize decide (D (p i) < D (p j)) = t at hcon ⊢
  have HC := hide hcon
  clear hcon
  have hm := mBefore
  go_enter Yba.func50, Yba.ntmps50
  go_upto_region 1 with (fail)
  go_region_with (go_at_call 52; refine HC.out.mono ?_; rintro e w1 ⟨rfl, hbel⟩)
  all_goals
    go_wp2
    go_ret
    exact ⟨rfl, ⟨hbel.os, hbel.tape, hbel.output, hbel.size, hbel.block⟩⟩

def swpN (p : Nat → Nat) (i j : Nat) : Nat → Nat := putN (putN p i (p j)) j (p i)
theorem swpN_left (p : Nat → Nat) (i j : Nat) : swpN p i j i = p j := by unfold swpN putN; by_cases h : i = j <;> simp [h]
theorem swpN_right (p : Nat → Nat) (i j : Nat) : swpN p i j j = p i := by simp [swpN, putN]
theorem swpN_other (p : Nat → Nat) {i j q : Nat} (h1 : q ≠ i) (h2 : q ≠ j) : swpN p i j q = p q := by simp [swpN, putN, h1, h2]
theorem swpN_mem (p : Nat → Nat) {i j k q : Nat} (hi : i < k) (hj : j < k) (hq : q < k) : ∃ r, r < k ∧ swpN p i j q = p r := by
  by_cases h2 : q = j
  · exact ⟨i, hi, by rw [h2, swpN_right]⟩
  · by_cases h1 : q = i
    · exact ⟨j, hj, by rw [h1, swpN_left]⟩
    · exact ⟨q, hq, swpN_other p h1 h2⟩

theorem Hp.storeRow {W : World} {hb ho k g cap : Nat} {p : Nat → Nat} {D : Nat → Int} (h : Hp W hb ho (.slice (some ⟨g, 0, none⟩) k cap) k p D) (i : Nat) {b : Nat} (hs : Snd W b (D b)) (hu : hb < b) :
    Hp (W.setCell ⟨g, i, none⟩ (ptr b)) hb ho (.slice (some ⟨g, 0, none⟩) k cap) k (putN p i b) D ∧ Below (hb + 1) W (W.setCell ⟨g, i, none⟩ (ptr b)) ∧ ∀ c n, Snd W c n → Snd (W.setCell ⟨g, i, none⟩ (ptr b)) c n := by
  obtain ⟨o1, o2⟩ := World.ownsRow.stored h.own i (ptr b)
  rw [rowP_set] at o1
  have hg := (h.own.lt g rfl).1
  have hne : ∀ c n, Snd W c n → some c ≠ some g := fun c n hs e => by
    obtain ⟨nm, ag, ix, hs⟩ := hs
    cases e
    exact own_ne h.own hs (by decide) rfl
  have keep : ∀ c n, Snd W c n → Snd (W.setCell ⟨g, i, none⟩ (ptr b)) c n := fun c n hs => hs.grown o2 (hne c n hs)
  refine ⟨⟨o2.cell h.hd (by simp; omega), (World.frozen?_of_block (o2.block hb (World.block_lt_of_cell? _ _ h.hd) (by simp; omega))).trans h.fz, o1, fun q hq => ?_, fun q hq => ?_⟩, (Below.refl _ W).setCell (by simpa using hg) _, keep⟩
  · unfold putN
    by_cases e : q = i
    · rw [if_pos e]; exact keep _ _ hs
    · rw [if_neg e]; exact keep _ _ (h.snd q hq)
  · unfold putN
    by_cases e : q = i
    · rw [if_pos e]; exact hu
    · rw [if_neg e]; exact h.up q hq

/-- A sender's index is set: nothing that is said of the heap turns. -/
theorem Hp.index {W : World} {hb ho k : Nat} {hdr : Value} {p : Nat → Nat} {D : Nat → Int} (h : Hp W hb ho hdr k p D) {i : Nat} (hi : i < k) (x : Int) :
    Hp (W.setCell ⟨p i, 5, none⟩ (.int .i64 x)) hb ho hdr k p D ∧ Below (hb + 1) W (W.setCell ⟨p i, 5, none⟩ (.int .i64 x)) := by
  have hu := h.up i hi
  obtain ⟨nm, ag, ix, hs⟩ := h.snd i hi
  have hg := grown_set W ⟨p i, 5, none⟩ (.int .i64 x)
  refine ⟨⟨hg.cell h.hd (by simp; omega), (World.frozen?_of_block (hg.block hb (World.block_lt_of_cell? _ _ h.hd) (by simp; omega))).trans h.fz, h.own.kept hg (.inr fun e => own_ne h.own hs (by decide) e.symm), fun q hq => ?_, h.up⟩, (Below.refl _ W).setCell (by simp; omega) _⟩
  by_cases e : p q = p i
  · rw [e]
    exact ⟨nm, ag, x, hs.store 5 (.int .i64 x)⟩
  · exact (h.snd q hq).grown hg (by simpa using e)

theorem Hp.drewN {W : World} {hb ho k : Nat} {hdr : Value} {p : Nat → Nat} {D : Nat → Int} (h : Hp W hb ho hdr k p D) (q : Nat) : Hp (W.drewN q) hb ho hdr k p D := ⟨h.hd, h.fz, h.own, h.snd, h.up⟩
theorem below_drewN {B : Nat} {a b : World} (h : Below B a b) (k : Nat) : Below B a (b.drewN k) := ⟨h.os, h.tape, h.output, h.size, h.block⟩

set_option maxRecDepth 100000 in
set_option maxHeartbeats 4000000 in
theorem swap_any {W : World} {hb ho k i j : Nat} {hdr : Value} {p : Nat → Nat} {D : Nat → Int} (h : Hp W hb ho hdr k p D) (hi : i < k) (hj : j < k) (hij : i ≠ j) :
    Calls Yba.prog 51 #[hdr, .int .i64 (i : Int), .int .i64 (j : Int)] W fun e w' => e = .returned (.tuple #[]) ∧ Hp w' hb ho hdr k (swpN p i j) D ∧ Below (hb + 1) W w' := by
  obtain ⟨g, cap, rfl, hg⟩ := row_form h.own (by omega)
  have ci := h.cell hi
  have cj := h.cell hj
  have fr := fun o => h.own.frozenAt (g := g) o
  have i0 : (0 : Int) ≤ (i : Int) := by omega
  have j0 : (0 : Int) ≤ (j : Int) := by omega
  have i1 : (i : Int) < (k : Int) := by omega
  have j1 : (j : Int) < (k : Int) := by omega
  have ne1 : ¬ j = i := fun e => hij e.symm
  obtain ⟨s1, b1, keep⟩ := h.storeRow i (h.snd j hj) (h.up j hj)
  obtain ⟨s2, b2, _⟩ := s1.storeRow j (keep _ _ (h.snd i hi)) (h.up i hi)
  have HS := hide s2
  have HB := hide (b1.trans b2)
  clear s1 s2 b1 b2 keep
  go_enter Yba.func51, Yba.ntmps51
  go_upto_region 0 with (fail)
  go_cut [] from 6 to 33 (fun W' => Hp W' hb ho (.slice (some ⟨g, 0, none⟩) k cap) k (swpN p i j) D ∧ Below (hb + 1) W W')
  case first =>
    go_region
    all_goals
      go_wp2
      go_meet
      case rel => exact ⟨HS.out.drewN 1, below_drewN HB.out 1⟩
  case rest =>
  clear ci cj fr HS HB h
  obtain ⟨h, hB⟩ := hcut
  have ci := h.cell hi
  rw [swpN_left] at ci
  have hm := mSetIndex
  obtain ⟨nm, ag, ix, hs⟩ := h.snd i hi
  rw [swpN_left] at hs
  have c5 := hs.cell (i := 5) rfl
  have f5 := hs.frozen 5
  have HI := hide (h.index hi (i : Int))
  rw [swpN_left] at HI
  go_wp2_with fail
  refine (setIndex_any c5 f5).mono ?_
  rintro e w2 ⟨rfl, rfl⟩
  obtain ⟨h2, hB2⟩ := HI.out
  have hB3 := hB.trans hB2
  clear HI hB hB2 c5 f5 hs ci
  generalize (wc.setCell ⟨p j, 5, none⟩ (.int .i64 (i : Int))) = w3 at h2 hB3 ⊢
  have cj := h2.cell hj
  rw [swpN_right] at cj
  obtain ⟨nm, ag, ix, hs⟩ := h2.snd j hj
  rw [swpN_right] at hs
  have c5 := hs.cell (i := 5) rfl
  have f5 := hs.frozen 5
  have HI := hide (h2.index hj (j : Int))
  rw [swpN_right] at HI
  go_wp2_with fail
  refine (setIndex_any c5 f5).mono ?_
  rintro e w2 ⟨rfl, rfl⟩
  go_wp2
  go_end0
  exact ⟨rfl, HI.out.1, hB3.trans HI.out.2⟩
end Go.Proofs.Ybulkfhta.B
