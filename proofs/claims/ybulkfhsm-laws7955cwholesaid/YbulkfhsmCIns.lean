/-
  insertionSortOrdered, reverseRangeOrdered.
-/
import Derived.Test.YbulkfhsmCRow
namespace Go.Proofs.Ybulkfhsm.C
open Go.RowKit
attribute [local go_sem ↓] Go.wp_at_zero Go.wp_at_succ

/-- [a, i] is sorted but for the element at j, which is not greater than those behind it. -/
def Ins (a i j : Nat) (d : Nat → Int) : Prop := (∀ p q, a ≤ p → p < q → q ≤ i → p ≠ j → q ≠ j → d p ≤ d q) ∧ ∀ q, j < q → q ≤ i → d j ≤ d q

theorem ins_start {a i : Nat} {d : Nat → Int} (h : Sorted a i d) : Ins a i i d :=
  ⟨fun p q h1 h2 h3 _ h5 => h p q h1 h2 (by omega), fun q h1 h2 => by omega⟩

theorem ins_step {a i j : Nat} {d : Nat → Int} (h : Ins a i (j + 1) d) (hj : j + 1 ≤ i) (haj : a ≤ j) (hl : d (j + 1) < d j) : Ins a i j (swp d (j + 1) j) := by
  refine ⟨fun p q h1 h2 h3 h4 h5 => ?_, fun q h1 h2 => ?_⟩
  · by_cases ep : p = j + 1
    · subst ep
      rw [swp_left, swp_other d (by omega) (by omega)]
      exact h.1 j q haj (by omega) h3 (by omega) (by omega)
    · rw [swp_other d (k := p) (by omega) (by omega)]
      by_cases eq : q = j + 1
      · subst eq; rw [swp_left]; exact h.1 p j h1 (by omega) (by omega) (by omega) (by omega)
      · rw [swp_other d (k := q) (by omega) (by omega)]; exact h.1 p q h1 h2 h3 (by omega) (by omega)
  · rw [swp_right]
    by_cases eq : q = j + 1
    · subst eq; rw [swp_left]; omega
    · rw [swp_other d (by omega) (by omega)]; exact h.2 q (by omega) h2

theorem ins_done {a i j : Nat} {d : Nat → Int} (h : Ins a i j d) (hj : j ≤ i) (hd : j ≤ a ∨ 0 < j ∧ d (j - 1) ≤ d j) : Sorted a (i + 1) d := by
  intro p q h1 h2 h3
  by_cases ep : p = j
  · subst ep; exact h.2 q h2 (by omega)
  · by_cases eq : q = j
    · subst eq
      rcases hd with hd | ⟨hd0, hd⟩
      · omega
      · by_cases e : p = q - 1
        · subst e; exact hd
        · have := h.1 p (q - 1) h1 (by omega) (by omega) ep (by omega); omega
    · exact h.1 p q h1 h2 (by omega) ep eq

/-- What a sorting function leaves. -/
def Srt (w : World) (base g n cap a b : Nat) (d : Nat → Int) (w' : World) : Prop := ∃ d', Now w w' base g n cap d' ∧ Swaps a b d d' ∧ Sorted a b d'

set_option maxRecDepth 100000 in
set_option maxHeartbeats 1000000 in
theorem insertion_any {w : World} {base g n cap a b : Nat} {d : Nat → Int} (h : Rw w base g n cap d) (hab : a ≤ b) (hb : b ≤ n) (hn : n ≤ 16384) :
    Calls Yba.prog 38 #[.slice (some ⟨g, 0, none⟩) n cap, .int .i64 (a : Int), .int .i64 (b : Int)] w fun e w' => e = .returned (.tuple #[]) ∧ Srt w base g n cap a b d w' := by
  have a1 : (a : Int) ≤ 16384 := by omega
  have b1 : (b : Int) ≤ 16384 := by omega
  go_enter Yba.func38, Yba.ntmps38
  go_wp2
  go_loopw [6] (fun x W => ∃ (i : Nat) (e : Nat → Int), x = .int .i64 (i : Int) ∧ a < i ∧ i ≤ b + 1 ∧ Now w W base g n cap e ∧ Swaps a b d e ∧ Sorted a i e) (fun x _ => b + 1 - (intOf x).toNat)
  case atStart => exact ⟨a + 1, d, by go_num, by omega, by omega, Now.start h, Swaps.refl _ _ _, fun p q h1 h2 h3 => by omega⟩
  case round =>
    obtain ⟨i, e, rfl, hai, hib, hN, hSw, hSo⟩ := hrel
    by_cases hlt : i < b
    · have i1 : (i : Int) < (b : Int) := by omega
      go_wp2
      go_loopw [7] (fun x W => ∃ (j : Nat) (f : Nat → Int), x = .int .i64 (j : Int) ∧ a ≤ j ∧ j ≤ i ∧ Now w W base g n cap f ∧ Swaps a b d f ∧ Ins a i j f) (fun x _ => (intOf x).toNat)
      case atStart => exact ⟨i, e, rfl, by omega, by omega, hN, hSw, ins_start hSo⟩
      case round =>
        obtain ⟨j, f, rfl, haj, hji, hNf, hSf, hI⟩ := hrel
        clear hN hSw hSo
        by_cases hja : a < j
        · obtain ⟨q, rfl⟩ : ∃ q, j = q + 1 := ⟨j - 1, by omega⟩
          have e1 : ((q + 1 : Nat) : Int) = (q : Int) + 1 := by omega
          rw [e1]
          have j0 : (a : Int) < (q : Int) + 1 := by omega
          have j1 : (0 : Int) ≤ (q : Int) := by omega
          have j2 : (q : Int) + 1 < (n : Int) := by omega
          have j3 : (q : Int) < (n : Int) := by omega
          have j4 : (0 : Int) ≤ (q : Int) + 1 := by omega
          have c1 := hNf.1.cell (i := q + 1) (by omega)
          have c2 := hNf.1.cell (i := q) (by omega)
          have cs := hNf.1.second (i := q + 1) (j := q) (by omega) (by omega)
          have fz := hNf.1.frozen
          clear e1
          by_cases hl : f (q + 1) < f q
          · have HL := hide hl
            have hd : decide (f (q + 1) < f q) = true := by simpa using hl
            clear hl
            go_wp2_with fail
            go_quiet ((go_at_call 44; exact Calls.quiet_of_same (less_any _ _ _)))
            go_wp2_with fail
            go_region
            go_wp2
            exact ⟨⟨q, swp f (q + 1) q, rfl, by omega, by omega, (hNf.drewN _).swap (by omega) (by omega), hSf.swp (by omega) (by omega) (by omega) (by omega), ins_step hI hji (by omega) HL.out⟩, by simp [intOf]⟩
          · have HL := hide hl
            have hd : decide (f (q + 1) < f q) = false := by simpa using hl
            clear hl
            go_wp2_with fail
            go_quiet ((go_at_call 44; exact Calls.quiet_of_same (less_any _ _ _)))
            go_wp2
            exact ⟨⟨i + 1, f, by go_num, by omega, by omega, hNf.drewN _, hSf, ins_done hI hji (.inr ⟨by omega, by have := HL.out; simp only [Nat.add_sub_cancel]; omega⟩)⟩, by simp [intOf]; omega⟩
        · obtain rfl : j = a := by omega
          have j0 : decide ((j : Int) < (j : Int)) = false := by simp
          go_wp2_with fail
          go_quiet (fail)
          go_wp2
          exact ⟨⟨i + 1, f, by go_num, by omega, by omega, hNf.drewN _, hSf, ins_done hI hji (.inl (Nat.le_refl _))⟩, by simp [intOf]; omega⟩
    · have i1 : ¬ (i : Int) < (b : Int) := by omega
      go_wp2
      go_end0
      exact ⟨rfl, e, hN, hSw, fun p q h1 h2 h3 => hSo p q h1 h2 (by omega)⟩

set_option maxRecDepth 100000 in
set_option maxHeartbeats 1000000 in
theorem reverse_any {w : World} {base g n cap a b : Nat} {d : Nat → Int} (h : Rw w base g n cap d) (hab : a ≤ b) (hb : b ≤ n) (hn : n ≤ 16384) :
    Calls Yba.prog 42 #[.slice (some ⟨g, 0, none⟩) n cap, .int .i64 (a : Int), .int .i64 (b : Int)] w fun e w' => e = .returned (.tuple #[]) ∧ ∃ d', Now w w' base g n cap d' ∧ Swaps a b d d' := by
  have a1 : (a : Int) ≤ 16384 := by omega
  have b1 : (b : Int) ≤ 16384 := by omega
  have b0 : (0 : Int) ≤ (b : Int) := by omega
  go_enter Yba.func42, Yba.ntmps42
  go_wp2
  go_loopw [6, 7] (fun x y W => ∃ (i : Nat) (j : Int) (e : Nat → Int), x = .int .i64 (i : Int) ∧ y = .int .i64 j ∧ a ≤ i ∧ i ≤ 16384 ∧ -16384 ≤ j ∧ j < b ∧ Now w W base g n cap e ∧ Swaps a b d e) (fun x y _ => (intOf y - intOf x + 16384).toNat)
  case atStart => exact ⟨a, _, d, rfl, rfl, by omega, by omega, by omega, by omega, Now.start h, Swaps.refl _ _ _⟩
  case round =>
    obtain ⟨i, j, e, rfl, rfl, hai, hi, hj0, hjb, hN, hSw⟩ := hrel
    by_cases hlt : (i : Int) < j
    · obtain ⟨q, rfl⟩ : ∃ q : Nat, j = (q : Int) := ⟨j.toNat, by omega⟩
      have j1 : (0 : Int) ≤ (i : Int) := by omega
      have j2 : (i : Int) < (n : Int) := by omega
      have j3 : (0 : Int) ≤ (q : Int) := by omega
      have j4 : (q : Int) < (n : Int) := by omega
      have c1 := hN.1.cell (i := i) (by omega)
      have c2 := hN.1.cell (i := q) (by omega)
      have cs := hN.1.second (i := i) (j := q) (by omega) (by omega)
      have fz := hN.1.frozen
      go_wp2_with fail
      go_region
      go_wp2
      exact ⟨⟨i + 1, (q : Int) - 1, swp e i q, by go_num, rfl, by omega, by omega, by omega, by omega, (hN.swap (by omega) (by omega)).drewN 1, hSw.swp (by omega) (by omega) (by omega) (by omega)⟩, by simp [intOf]; omega⟩
    · go_wp2
      go_end0
      exact ⟨rfl, e, hN, hSw⟩
end Go.Proofs.Ybulkfhsm.C
