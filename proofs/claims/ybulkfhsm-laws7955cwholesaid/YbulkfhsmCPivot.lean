/-
  order2Ordered, medianOrdered, medianAdjacentOrdered, choosePivotOrdered.
-/
import Derived.Test.YbulkfhsmCBreak
namespace Go.Proofs.Ybulkfhsm.C
open Go.RowKit
attribute [local go_sem ↓] Go.wp_at_zero Go.wp_at_succ

/-- Block p, which is not the row's, holds an int. -/
def Cnt (W : World) (g p : Nat) : Prop := (∃ v : Int, W.cell? ⟨p, 0, none⟩ = some (.int .i64 v)) ∧ (∀ o, W.frozen? ⟨p, o, none⟩ = false) ∧ g ≠ p

theorem Rw.other {w w' : World} {base g n cap p : Nat} {d : Nat → Int} (h : Rw w base g n cap d) (hg : w.grownBy w' (some p)) (hne : g ≠ p) : Rw w' base g n cap d :=
  World.ownsRow.kept h hg (.inr (by simp [Value.ownBlock]; exact fun e => hne e))

theorem Cnt.drewN {W : World} {g p : Nat} (h : Cnt W g p) (k : Nat) : Cnt (W.drewN k) g p := h
theorem Cnt.store {W : World} {g p : Nat} (h : Cnt W g p) (v : Int) : Cnt (W.setCell ⟨p, 0, none⟩ (.int .i64 v)) g p := by
  obtain ⟨⟨u, hu⟩, hf, hne⟩ := h
  exact ⟨⟨v, World.cell?_setCell_same _ _ _ hu⟩, fun o => by rw [World.frozen?_setCell]; exact hf o, hne⟩

set_option maxRecDepth 100000 in
theorem order2_any {w : World} {base g n cap p i j : Nat} {d : Nat → Int} (h : Rw w base g n cap d) (hc : Cnt w g p) (hi : i < n) (hj : j < n) (hn : n ≤ 16384) :
    Calls Yba.prog 65 #[.slice (some ⟨g, 0, none⟩) n cap, .int .i64 (i : Int), .int .i64 (j : Int), .pointer (some ⟨p, 0, none⟩)] w fun e w' => (∃ x y : Nat, e = .returned (.tuple #[.int .i64 (x : Int), .int .i64 (y : Int)]) ∧ (x = i ∧ y = j ∨ x = j ∧ y = i)) ∧ Cnt w' g p ∧ w.grownBy w' (some p) := by
  have i0 : (0 : Int) ≤ (i : Int) := by omega
  have i1 : (i : Int) < (n : Int) := by omega
  have j0 : (0 : Int) ≤ (j : Int) := by omega
  have j1 : (j : Int) < (n : Int) := by omega
  have n1 : (n : Int) ≤ 16384 := by omega
  have c1 := h.cell hi
  have c2 := h.cell hj
  obtain ⟨⟨v, hv⟩, hf, hne⟩ := id hc
  clear hne
  go_enter Yba.func65, Yba.ntmps65
  by_cases hl : d j < d i
  · have HL := hide hl
    clear hl
    go_wp2_with fail
    go_quiet ((go_at_call 44; exact Calls.quiet_of_same (less_any _ _ _)))
    rw [show decide (d j < d i) = true from decide_eq_true HL.out]
    go_wp2
    refine bodyPost_ret (results_tmp2 rfl _ _ _) rfl ?_
    exact ⟨⟨j, i, rfl, .inr ⟨rfl, rfl⟩⟩, hc.store _, grown_trans (grown_drewN (World.grownBy.refl _ _) _) (grown_setCell _ ⟨p, 0, none⟩ _)⟩
  · have HL := hide hl
    clear hl
    go_wp2_with fail
    go_quiet ((go_at_call 44; exact Calls.quiet_of_same (less_any _ _ _)))
    rw [show decide (d j < d i) = false from decide_eq_false (by have := HL.out; omega)]
    go_wp2
    refine bodyPost_ret (results_tmp2 rfl _ _ _) rfl ?_
    exact ⟨⟨i, j, rfl, .inl ⟨rfl, rfl⟩⟩, hc, grown_drewN (World.grownBy.refl _ _) _⟩

set_option maxRecDepth 100000 in
theorem median_any {w : World} {base g n cap p i j k : Nat} {d : Nat → Int} (h : Rw w base g n cap d) (hc : Cnt w g p) (hi : i < n) (hj : j < n) (hk : k < n) (hn : n ≤ 16384) :
    Calls Yba.prog 61 #[.slice (some ⟨g, 0, none⟩) n cap, .int .i64 (i : Int), .int .i64 (j : Int), .int .i64 (k : Int), .pointer (some ⟨p, 0, none⟩)] w fun e w' => (∃ m : Nat, e = .returned (.int .i64 (m : Int)) ∧ (m = i ∨ m = j ∨ m = k)) ∧ Cnt w' g p ∧ w.grownBy w' (some p) := by
  go_enter Yba.func61, Yba.ntmps61
  go_wp2_with fail
  refine (order2_any h hc hi hj hn).mono ?_
  rintro e w1 ⟨⟨x, y, rfl, hxy⟩, hc1, hg1⟩
  go_wp2_with fail
  refine (order2_any (h.other hg1 hc.2.2) hc1 (i := y) (j := k) (by omega) hk hn).mono ?_
  rintro e w2 ⟨⟨y2, k2, rfl, hyk⟩, hc2, hg2⟩
  go_wp2_with fail
  refine (order2_any ((h.other hg1 hc.2.2).other hg2 hc.2.2) hc2 (i := x) (j := y2) (by omega) (by omega) hn).mono ?_
  rintro e w3 ⟨⟨x3, y3, rfl, hxy3⟩, hc3, hg3⟩
  go_wp2
  go_ret
  exact ⟨⟨y3, rfl, by omega⟩, hc3, grown_trans hg1 (grown_trans hg2 hg3)⟩

set_option maxRecDepth 100000 in
theorem adjacent_any {w : World} {base g n cap p i : Nat} {d : Nat → Int} (h : Rw w base g n cap d) (hc : Cnt w g p) (hi : 0 < i) (hi2 : i + 1 < n) (hn : n ≤ 16384) :
    Calls Yba.prog 60 #[.slice (some ⟨g, 0, none⟩) n cap, .int .i64 (i : Int), .pointer (some ⟨p, 0, none⟩)] w fun e w' => (∃ m : Nat, e = .returned (.int .i64 (m : Int)) ∧ i ≤ m + 1 ∧ m ≤ i + 1) ∧ Cnt w' g p ∧ w.grownBy w' (some p) := by
  obtain ⟨q, rfl⟩ : ∃ q, i = q + 1 := ⟨i - 1, by omega⟩
  have e1 : ((q + 1 : Nat) : Int) = (q : Int) + 1 := by omega
  have e2 : ((q + 1 + 1 : Nat) : Int) = (q : Int) + 1 + 1 := by omega
  have q0 : (0 : Int) ≤ (q : Int) := by omega
  have q1 : (q : Int) < 16384 := by omega
  have HC := hide (median_any h hc (i := q) (j := q + 1) (k := q + 1 + 1) (by omega) (by omega) (by omega) hn)
  rw [e1, e2] at HC
  rw [e1]
  clear e1 e2
  go_enter Yba.func60, Yba.ntmps60
  go_wp2_with fail
  refine HC.out.mono ?_
  rintro e w1 ⟨⟨m, rfl, hm⟩, hc1, hg1⟩
  go_wp2
  go_ret
  exact ⟨⟨m, rfl, by omega, by omega⟩, hc1, hg1⟩

set_option maxRecDepth 100000 in
set_option maxHeartbeats 2000000 in
theorem pivot_any {w : World} {base g n cap a b : Nat} {d : Nat → Int} (h : Rw w base g n cap d) (hab : a + 12 < b) (hb : b ≤ n) (hn : n ≤ 16384) :
    Calls Yba.prog 41 #[.slice (some ⟨g, 0, none⟩) n cap, .int .i64 (a : Int), .int .i64 (b : Int)] w fun e w' => (∃ (m : Nat) (hint : Int), e = .returned (.tuple #[.int .i64 (m : Int), .int .i64 hint]) ∧ a ≤ m ∧ m < b) ∧ Now w w' base g n cap d := by
  obtain ⟨L, rfl⟩ : ∃ L, b = a + L := ⟨b - a, by omega⟩
  have eb : ((a + L : Nat) : Int) = (a : Int) + (L : Int) := by omega
  rw [eb]
  have es : (a : Int) + (L : Int) - (a : Int) = (L : Int) := by omega
  have a0 : (0 : Int) ≤ (a : Int) := by omega
  have a1 : (a : Int) ≤ 16384 := by omega
  have l0 : (8 : Int) ≤ (L : Int) := by omega
  have l1 : (L : Int) ≤ 16384 := by omega
  go_enter Yba.func41, Yba.ntmps41
  go_upto_if 32 with (fail)
  have hs := (World.ownsRow.lt h g rfl).2
  have hR0 : Rw (w.alloc (.cells #[.int .i64 0] 3)) base g n cap d := World.ownsRow.alloc h _
  have hC0 : Cnt (w.alloc (.cells #[.int .i64 0] 3)) g w.heap.size := ⟨⟨0, (World.cell?_alloc_new _ _ _ _).trans rfl⟩, fun o => by simp, by omega⟩
  have hG0 : w.grownBy (w.alloc (.cells #[.int .i64 0] 3)) (some g) := World.grownBy_alloc _ _ _
  obtain ⟨p, hp⟩ : ∃ p, p = w.heap.size := ⟨_, rfl⟩
  have hwp : w.heap.size ≤ p := by omega
  rw [← hp] at hC0 ⊢
  generalize w.alloc (.cells #[.int .i64 0] 3) = W0 at hR0 hC0 hG0 ⊢
  clear hp hs
  have q1 : (L : Int) / 4 = ((L / 4 : Nat) : Int) := by omega
  have q2 : 3 ≤ L / 4 := by omega
  have q3 : L / 4 * 4 ≤ L := by omega
  rw [q1]
  generalize L / 4 = q at q1 q2 q3
  have q0 : (0 : Int) ≤ (q : Int) := by omega
  have q4 : (q : Int) ≤ 16384 := by omega
  clear q1
  go_cut [11] from 13 to 56 (fun x W => (∃ m : Nat, x = .int .i64 (m : Int) ∧ a ≤ m ∧ m < a + L) ∧ Rw W base g n cap d ∧ Cnt W g p ∧ w.grownBy W (some g))
  case first =>
    go_upto_if 34 with (fail)
    go_cut [10, 11, 12] from 13 to 56 (fun x y z W => (∃ i j k : Nat, x = .int .i64 (i : Int) ∧ y = .int .i64 (j : Int) ∧ z = .int .i64 (k : Int) ∧ a ≤ i ∧ i < a + L ∧ a ≤ j ∧ j < a + L ∧ a ≤ k ∧ k < a + L) ∧ Rw W base g n cap d ∧ Cnt W g p ∧ w.grownBy W (some g))
    case first =>
      by_cases h50 : 50 ≤ L
      · have t1 : (50 : Int) ≤ (L : Int) := by omega
        have e1 : (a : Int) + (q : Int) = ((a + q : Nat) : Int) := by omega
        have e2 : (a : Int) + (q : Int) * 2 = ((a + q * 2 : Nat) : Int) := by omega
        have e3 : (a : Int) + (q : Int) * 3 = ((a + q * 3 : Nat) : Int) := by omega
        have E1 := hide e1
        have E2 := hide e2
        have E3 := hide e3
        clear e1 e2 e3
        have HC1 := hide (adjacent_any hR0 hC0 (i := a + q) (by omega) (by omega) hn)
        rw [← E1.out] at HC1
        go_wp2_with fail
        refine HC1.out.mono ?_
        rintro e w1 ⟨⟨i, rfl, i1, i2⟩, hc1, hg1⟩
        have hR1 := hR0.other hg1 hC0.2.2
        have HC2 := hide (adjacent_any hR1 hc1 (i := a + q * 2) (by omega) (by omega) hn)
        rw [← E2.out] at HC2
        go_wp2_with fail
        refine HC2.out.mono ?_
        rintro e w2 ⟨⟨j, rfl, j1, j2⟩, hc2, hg2⟩
        have hR2 := hR1.other hg2 hC0.2.2
        have HC3 := hide (adjacent_any hR2 hc2 (i := a + q * 3) (by omega) (by omega) hn)
        rw [← E3.out] at HC3
        go_wp2_with fail
        refine HC3.out.mono ?_
        rintro e w3 ⟨⟨k, rfl, k1, k2⟩, hc3, hg3⟩
        go_wp2
        go_meet
        case rel => exact ⟨⟨i, j, k, rfl, rfl, rfl, by omega, by omega, by omega, by omega, by omega, by omega⟩, hR2.other hg3 hC0.2.2, hc3, grown_new hG0 hwp (grown_trans hg1 (grown_trans hg2 hg3))⟩
      · have t1 : ¬ (50 : Int) ≤ (L : Int) := by omega
        go_wp2
        go_meet
        case rel => exact ⟨⟨a + q, a + q * 2, a + q * 3, by go_num, by go_num, by go_num, by omega, by omega, by omega, by omega, by omega, by omega⟩, hR0, hC0, hG0⟩
    case rest =>
    clear hR0 hC0 hG0
    obtain ⟨⟨i, j, k, rfl, rfl, rfl, i1, i2, j1, j2, k1, k2⟩, hR, hC, hG⟩ := hcut
    go_wp2_with fail
    refine (median_any hR hC (by omega) (by omega) (by omega) hn).mono ?_
    rintro e w1 ⟨⟨m, rfl, hm⟩, hc1, hg1⟩
    go_wp2
    go_meet
    case rel => exact ⟨⟨m, rfl, by omega, by omega⟩, hR.other hg1 hC.2.2, hc1, grown_new hG hwp hg1⟩
  case rest =>
  clear hR0 hC0 hG0
  obtain ⟨⟨m, rfl, m1, m2⟩, hR, hC, hG⟩ := hcut
  obtain ⟨⟨v, hv⟩, hf, hne⟩ := id hC
  clear hne hf
  by_cases hv0 : v = 0
  · subst hv0
    go_wp2
    refine bodyPost_ret (results_tmp2 rfl _ _ _) rfl ?_
    exact ⟨⟨m, _, rfl, m1, m2⟩, hR, hG⟩
  · have t1 : (v == 0) = false := by simpa using hv0
    by_cases hv1 : v = 12
    · subst hv1
      go_wp2
      refine bodyPost_ret (results_tmp2 rfl _ _ _) rfl ?_
      exact ⟨⟨m, _, rfl, m1, m2⟩, hR, hG⟩
    · have t2 : (v == 12) = false := by simpa using hv1
      go_wp2
      refine bodyPost_ret (results_tmp2 rfl _ _ _) rfl ?_
      exact ⟨⟨m, _, rfl, m1, m2⟩, hR, hG⟩
end Go.Proofs.Ybulkfhsm.C
