/-
  The closure of next: the step that is due first so far.
-/
import Derived.Test.YbulkfhtaBPush
namespace Go.Proofs.Ybulkfhta.B
open Go.RowKit
attribute [local go_sem ↓] Go.wp_at_zero Go.wp_at_succ

/-- A step that is not the empty one. -/
def Full (s : ByteArray) : Prop := s.toList.isEmpty = false

abbrev Cand := Int × ByteArray
def cons (o : Option Cand) (x : Cand) : Option Cand := match o with
  | none => some x
  | some y => some (if x.1 < y.1 then x else y)
def timeOf (o : Option Cand) : Int := match o with
  | none => 0
  | some y => y.1
def stepOf (o : Option Cand) : ByteArray := match o with
  | none => { data := #[] }
  | some y => y.2
def FullO (o : Option Cand) : Prop := match o with
  | none => True
  | some y => Full y.2

/-- The two results of next, in two blocks. -/
structure Cur (W : World) (a : Nat) (o : Option Cand) : Prop where
  time : Blk W a 37 [.int .u64 (timeOf o % 1000000000), .int .i64 (timeOf o / 1000000000), .pointer none]
  what : Blk W (a + 1) 57 [.string (stepOf o)]
  full : FullO o

theorem cons_full {o : Option Cand} {x : Cand} (h : FullO o) (hx : Full x.2) : FullO (cons o x) := by
  cases o with
  | none => exact hx
  | some y =>
    simp only [cons, FullO] at h ⊢
    split
    · exact hx
    · exact h

theorem Cur.below {W W' : World} {a : Nat} {o : Option Cand} (h : Cur W a o) (hb : Below W.heap.size W W') : Cur W' a o := ⟨h.time.below hb h.time.lt, h.what.below hb h.what.lt, h.full⟩

/-- A candidate is taken. -/
theorem Cur.take {W : World} {a : Nat} {o : Option Cand} (h : Cur W a o) (n : Int) {s : ByteArray} (hs : Full s) :
    Cur ((((W.setCell ⟨a, 0, none⟩ (.int .u64 (n % 1000000000))).setCell ⟨a, 1, none⟩ (.int .i64 (n / 1000000000))).setCell ⟨a, 2, none⟩ (.pointer none)).setCell ⟨a + 1, 0, none⟩ (.string s)) a (some (n, s)) :=
  ⟨(((h.time.store 0 (.int .u64 (n % 1000000000))).store 1 (.int .i64 (n / 1000000000))).store 2 (.pointer none)).other (by simp) _, (((h.what.other (by simp) _).other (by simp) _).other (by simp) _).store 0 (.string s), hs⟩

set_option maxRecDepth 100000 in
set_option maxHeartbeats 4000000 in
theorem consider_any {W : World} {a : Nat} {o : Option Cand} {n : Int} {s : ByteArray} (h : Cur W a o) (hs : Full s) :
    Calls Yba.prog 14 #[tv n, .string s, .pointer (some ⟨a + 1, 0, none⟩), .pointer (some ⟨a, 0, none⟩)] W fun e w' => e = .returned (.tuple #[]) ∧ Cur w' a (cons o (n, s)) ∧ Below a W w' := by
  have hla := h.time.lt
  have hlb := h.what.lt
  have hB1 : Below W.heap.size W (W.alloc (.cells [Value.int .u64 (n % 1000000000), .int .i64 (n / 1000000000), .pointer none].toArray 37)) := (Below.refl _ W).alloc (Nat.le_refl _) _
  have h1 := h.below hB1
  have hv := Blk.new W 37 [.int .u64 (n % 1000000000), .int .i64 (n / 1000000000), .pointer none]
  obtain ⟨N, eN⟩ : ∃ N, N = W.heap.size := ⟨_, rfl⟩
  unfold tv
  go_enter Yba.func14, Yba.ntmps14
  go_upto_region 1 with (fail)
  generalize (W.alloc (.cells [Value.int .u64 (n % 1000000000), .int .i64 (n / 1000000000), .pointer none].toArray 37)) = w1 at hB1 h1 hv ⊢
  rw [← eN] at hv hB1 ⊢
  have EN := hide eN
  have hNa : a + 1 < N := by omega
  clear eN
  have v0 := hv.cell (i := 0) rfl
  have v1 := hv.cell (i := 1) rfl
  have v2 := hv.cell (i := 2) rfl
  have cw := h1.what.cell (i := 0) rfl
  have c0 := h1.time.cell (i := 0) rfl
  have c1 := h1.time.cell (i := 1) rfl
  have c2 := h1.time.cell (i := 2) rfl
  have ft := h1.time.frozen
  have fw := h1.what.frozen
  have lN := hv.lt
  cases o with
  | none =>
    have ne1 : a ≠ a + 1 := by omega
    simp only [stepOf, timeOf] at cw c0 c1
    go_wp2
    go_end0
    refine ⟨rfl, ?_, ?_⟩
    · exact h1.take n hs
    · have hBa : Below a W w1 := hB1.mono (by omega)
      exact (((hBa.setCell (Nat.le_refl _) _).setCell (Nat.le_refl _) _).setCell (Nat.le_refl _) _).setCell (by simp) _
  | some y =>
    have hee : Full y.2 := h1.full
    simp only [stepOf, timeOf] at cw c0 c1
    unfold Full at hee
    have hcon := before_any n y.1 w1
    unfold tv at hcon
    have HC := hide hcon
    clear hcon
    go_wp2_with fail
    refine HC.out.mono ?_
    rintro e w2 ⟨rfl, hb2⟩
    have h2 := h1.below hb2
    have hv2 := hv.below hb2 hv.lt
    have hB2 : Below a W w2 := (hB1.mono (by omega)).trans (hb2.mono (by omega))
    clear v0 v1 v2 cw c0 c1 c2 ft fw
    have v0 := hv2.cell (i := 0) rfl
    have v1 := hv2.cell (i := 1) rfl
    have v2 := hv2.cell (i := 2) rfl
    have cw := h2.what.cell (i := 0) rfl
    have c0 := h2.time.cell (i := 0) rfl
    have c1 := h2.time.cell (i := 1) rfl
    have c2 := h2.time.cell (i := 2) rfl
    have ft := h2.time.frozen
    have fw := h2.what.frozen
    simp only [stepOf, timeOf] at cw c0 c1
    by_cases hl : n < y.1
    · rw [show decide (n < y.1) = true by simpa using hl]
      have e : cons (some y) (n, s) = some (n, s) := by simp only [cons]; rw [if_pos hl]
      have he := hide e
      clear e hl
      go_wp2
      go_end0
      refine ⟨rfl, ?_, ?_⟩
      · rw [he.out]; exact h2.take n hs
      · exact (((hB2.setCell (Nat.le_refl _) _).setCell (Nat.le_refl _) _).setCell (Nat.le_refl _) _).setCell (by simp) _
    · rw [show decide (n < y.1) = false by simpa using hl]
      have e : cons (some y) (n, s) = some y := by simp only [cons]; rw [if_neg hl]
      have he := hide e
      clear e hl
      go_wp2
      go_end0
      exact ⟨rfl, by rw [he.out]; exact h2, hB2⟩
end Go.Proofs.Ybulkfhta.B
