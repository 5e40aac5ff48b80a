/-
  siftDownOrdered, heapSortOrdered.
-/
import Derived.Test.YbulkfhsmCIns
namespace Go.Proofs.Ybulkfhsm.C
open Go.RowKit
attribute [local go_sem ↓] Go.wp_at_zero Go.wp_at_succ

/-- From lo on each node below hi is not less than its children. -/
def Heap (lo hi first : Nat) (d : Nat → Int) : Prop := ∀ i c, lo ≤ i → c < hi → c = 2 * i + 1 ∨ c = 2 * i + 2 → d (first + c) ≤ d (first + i)

/-- The same but for the node r, whose children are not greater than its parent. -/
def HeapBut (lo hi first r : Nat) (d : Nat → Int) : Prop :=
  (∀ i c, lo ≤ i → i ≠ r → c < hi → c = 2 * i + 1 ∨ c = 2 * i + 2 → d (first + c) ≤ d (first + i)) ∧
  ∀ i c, lo ≤ i → c < hi → r = 2 * i + 1 ∨ r = 2 * i + 2 → c = 2 * r + 1 ∨ c = 2 * r + 2 → d (first + c) ≤ d (first + i)

theorem heap_start {lo hi first : Nat} {d : Nat → Int} (h : Heap (lo + 1) hi first d) : HeapBut lo hi first lo d :=
  ⟨fun i c h1 h2 h3 h4 => h i c (by omega) h3 h4, fun i c h1 h2 h3 _ => by omega⟩

/-- The root k at r is exchanged with its greater child c. -/
theorem heap_step {lo hi first r c : Nat} {d : Nat → Int} (h : HeapBut lo hi first r d) (hr : lo ≤ r) (hc : c < hi) (hcr : c = 2 * r + 1 ∨ c = 2 * r + 2)
    (hmax : ∀ k, k < hi → k = 2 * r + 1 ∨ k = 2 * r + 2 → d (first + k) ≤ d (first + c)) (hl : d (first + r) < d (first + c)) : HeapBut lo hi first c (swp d (first + r) (first + c)) := by
  refine ⟨fun i k h1 h2 h3 h4 => ?_, fun i k h1 h2 h3 h4 => ?_⟩
  · by_cases ei : i = r
    · subst ei
      rw [swp_left]
      by_cases ek : k = c
      · subst ek; rw [swp_right]; omega
      · rw [swp_other d (by omega) (by omega)]; exact hmax k h3 h4
    · rw [swp_other d (k := first + i) (by omega) (by omega)]
      by_cases ek : k = r
      · subst ek; rw [swp_left]; exact h.2 i c h1 hc (by omega) (by omega)
      · by_cases ek2 : k = c
        · omega
        · rw [swp_other d (by omega) (by omega)]; exact h.1 i k h1 ei h3 h4
  · have ei : i = r := by omega
    subst ei
    rw [swp_left, swp_other d (by omega) (by omega)]
    exact h.1 c k (by omega) (by omega) h2 h4

theorem heap_done {lo hi first r : Nat} {d : Nat → Int} (h : HeapBut lo hi first r d) (hd : ∀ c, c < hi → c = 2 * r + 1 ∨ c = 2 * r + 2 → d (first + c) ≤ d (first + r)) : Heap lo hi first d := by
  intro i c h1 h2 h3
  by_cases e : i = r
  · subst e; exact hd c h2 h3
  · exact h.1 i c h1 e h2 h3

theorem heap_max {hi first : Nat} {d : Nat → Int} (h : Heap 0 hi first d) : ∀ (m k : Nat), k ≤ m → k < hi → d (first + k) ≤ d first := by
  intro m
  induction m with
  | zero => intro k hk _; obtain rfl : k = 0 := by omega
            exact Int.le_refl _
  | succ m ih =>
    intro k hk hkh
    by_cases e : k = 0
    · subst e; exact Int.le_refl _
    · have h1 := ih ((k - 1) / 2) (by omega) (by omega)
      have h2 := h ((k - 1) / 2) k (by omega) hkh (by omega)
      omega

set_option maxRecDepth 100000 in
set_option maxHeartbeats 2000000 in
theorem sift_any {w : World} {base g n cap lo hi first : Nat} {d : Nat → Int} (h : Rw w base g n cap d) (hb : first + hi ≤ n) (hn : n ≤ 16384) (hlo : lo ≤ 16384) (hH : Heap (lo + 1) hi first d) :
    Calls Yba.prog 57 #[.slice (some ⟨g, 0, none⟩) n cap, .int .i64 (lo : Int), .int .i64 (hi : Int), .int .i64 (first : Int)] w fun e w' => e = .returned (.tuple #[]) ∧ ∃ d', Now w w' base g n cap d' ∧ Swaps first (first + hi) d d' ∧ Heap lo hi first d' := by
  have a1 : (lo : Int) ≤ 16384 := by omega
  have a2 : (hi : Int) ≤ 16384 := by omega
  have a3 : (first : Int) ≤ 16384 := by omega
  have a4 : (0 : Int) ≤ (lo : Int) := by omega
  have a5 : (0 : Int) ≤ (first : Int) := by omega
  go_enter Yba.func57, Yba.ntmps57
  go_wp2
  go_loopw [8] (fun x W => ∃ (r : Nat) (e : Nat → Int), x = .int .i64 (r : Int) ∧ lo ≤ r ∧ r ≤ 16384 ∧ Now w W base g n cap e ∧ Swaps first (first + hi) d e ∧ HeapBut lo hi first r e) (fun x _ => 16384 - (intOf x).toNat)
  case atStart => exact ⟨lo, d, rfl, by omega, hlo, Now.start h, Swaps.refl _ _ _, heap_start hH⟩
  case round =>
    obtain ⟨r, e, rfl, hr, hr2, hN, hSw, hB⟩ := hrel
    have r1 : (r : Int) ≤ 16384 := by omega
    have r0 : (0 : Int) ≤ (r : Int) := by omega
    by_cases hc : hi ≤ 2 * r + 1
    · have t1 : (hi : Int) ≤ 2 * (r : Int) + 1 := by omega
      go_wp2
      go_end0
      exact ⟨rfl, e, hN, hSw, heap_done hB fun c h1 h2 => by omega⟩
    · have t1 : ¬ (hi : Int) ≤ 2 * (r : Int) + 1 := by omega
      have i1 : (first : Int) + (2 * (r : Int) + 1) < (n : Int) := by omega
      have i2 : (0 : Int) ≤ (first : Int) + (2 * (r : Int) + 1) := by omega
      have i3 : (first : Int) + (r : Int) < (n : Int) := by omega
      have i4 : (0 : Int) ≤ (first : Int) + (r : Int) := by omega
      have cr := hN.1.cell (i := first + r) (by omega)
      have c1 := hN.1.cell (i := first + (2 * r + 1)) (by omega)
      have fz := hN.1.frozen
      -- the greater child
      go_upto_region 3 with (fail)
      go_cut [36] from 11 to 75 (fun x W => x = .bool (decide (2 * r + 2 < hi ∧ e (first + (2 * r + 1)) < e (first + (2 * r + 2)))) ∧ Now w W base g n cap e)
      case first =>
        by_cases h2 : 2 * r + 2 < hi
        · have t2 : 2 * (r : Int) + 1 + 1 < (hi : Int) := by omega
          have i5 : (first : Int) + (2 * (r : Int) + 1) + 1 < (n : Int) := by omega
          have i6 : (0 : Int) ≤ (first : Int) + (2 * (r : Int) + 1) + 1 := by omega
          have c2 := hN.1.cell (i := first + (2 * r + 1) + 1) (by omega)
          have HC : Hid (decide (2 * r + 2 < hi ∧ e (first + (2 * r + 1)) < e (first + (2 * r + 2))) = decide (e (first + (2 * r + 1)) < e (first + (2 * r + 1) + 1))) := by
            show decide _ = decide _
            rw [show first + (2 * r + 1) + 1 = first + (2 * r + 2) by omega]; simp [h2]
          go_quiet ((go_at_call 44; exact Calls.quiet_of_same (less_any _ _ _)))
          go_wp2
          go_meet
          case rel => rw [HC.out]; exact ⟨rfl, hN.drewN _⟩
        · have t2 : decide (2 * (r : Int) + 1 + 1 < (hi : Int)) = false := by simp; omega
          have HC : Hid (decide (2 * r + 2 < hi ∧ e (first + (2 * r + 1)) < e (first + (2 * r + 2))) = false) := by
            show decide _ = false
            simp [h2]
          go_quiet (fail)
          go_wp2
          go_meet
          case rel => rw [HC.out]; exact ⟨rfl, hN.drewN _⟩
      case rest =>
      clear hN cr c1 fz
      obtain ⟨rfl, hN⟩ := hcut
      generalize hcnd : decide (2 * r + 2 < hi ∧ e (first + (2 * r + 1)) < e (first + (2 * r + 2))) = cnd
      have HCN := hide hcnd
      clear hcnd
      go_upto_if 36 with (fail)
      go_cut [9] from 11 to 75 (fun x W => (∃ c : Nat, x = .int .i64 (c : Int) ∧ c < hi ∧ (c = 2 * r + 1 ∨ c = 2 * r + 2) ∧ ∀ k, k < hi → k = 2 * r + 1 ∨ k = 2 * r + 2 → e (first + k) ≤ e (first + c)) ∧ Now w W base g n cap e)
      case first =>
        cases cnd
        · go_wp2
          go_meet
          case rel =>
            refine ⟨⟨2 * r + 1, by go_num, by omega, .inl rfl, fun k h1 h2 => ?_⟩, hN⟩
            rcases h2 with rfl | rfl
            · exact Int.le_refl _
            · have := of_decide_eq_false HCN.out; omega
        · go_wp2
          go_meet
          case rel =>
            have hq := of_decide_eq_true HCN.out
            refine ⟨⟨2 * r + 2, by go_num, hq.1, .inr rfl, fun k h1 h2 => ?_⟩, hN⟩
            rcases h2 with rfl | rfl
            · omega
            · exact Int.le_refl _
      case rest =>
      clear hN i1 i2 HCN
      obtain ⟨⟨c, rfl, hch, hcc, hmax⟩, hN⟩ := hcut
      have cr := hN.1.cell (i := first + r) (by omega)
      have fz := hN.1.frozen
      have i1 : (first : Int) + (c : Int) < (n : Int) := by omega
      have i2 : (0 : Int) ≤ (first : Int) + (c : Int) := by omega
      have c1 := hN.1.cell (i := first + c) (by omega)
      have cs := hN.1.second (i := first + r) (j := first + c) (by omega) (by omega)
      have HM := hide hmax
      clear hmax
      by_cases hl : e (first + r) < e (first + c)
      · have hd : decide (e (first + r) < e (first + c)) = true := by simpa using hl
        have HL := hide hl
        clear hl
        go_wp2_with fail
        go_quiet ((go_at_call 44; exact Calls.quiet_of_same (less_any _ _ _)))
        go_wp2_with fail
        go_region
        go_wp2
        exact ⟨⟨c, swp e (first + r) (first + c), rfl, by omega, by omega, (hN.drewN _).swap (by omega) (by omega), hSw.swp (by omega) (by omega) (by omega) (by omega), heap_step hB hr hch hcc HM.out HL.out⟩, by simp [intOf]; omega⟩
      · have hd : decide (e (first + r) < e (first + c)) = false := by simpa using hl
        have HL := hide hl
        clear hl
        go_wp2_with fail
        go_quiet ((go_at_call 44; exact Calls.quiet_of_same (less_any _ _ _)))
        go_wp2
        refine bodyPost_ret (results_none rfl _ _ _) rfl ?_
        exact ⟨rfl, e, hN.drewN _, hSw, heap_done hB fun k h1 h2 => by have := HM.out k h1 h2; have := HL.out; omega⟩

theorem heap_pop {hi first i : Nat} {d d' : Nat → Int} (hi' : i < hi) (hH : Heap 0 (i + 1) first d) (hle : ∀ p q, p ≤ i → i < q → q < hi → d (first + p) ≤ d (first + q)) (hso : Sorted (first + i + 1) (first + hi) d)
    (hsw : Swaps first (first + i) (swp d first (first + i)) d') : (∀ p q, p < i → i ≤ q → q < hi → d' (first + p) ≤ d' (first + q)) ∧ Sorted (first + i) (first + hi) d' := by
  have hmax := fun k hk => heap_max hH k k (Nat.le_refl _) hk
  have o : ∀ q, i ≤ q → d' (first + q) = swp d first (first + i) (first + q) := fun q hq => hsw.out (.inr (by omega))
  have oi : d' (first + i) = d first := by rw [o i (Nat.le_refl _), swp_right]
  have oq : ∀ q, i < q → d' (first + q) = d (first + q) := fun q hq => by rw [o q (by omega), swp_other d (by omega) (by omega)]
  have inn : ∀ k, first ≤ k → k < first + i → ∃ p, p ≤ i ∧ d' k = d (first + p) := by
    refine hsw.all (fun x => ∃ p, p ≤ i ∧ x = d (first + p)) fun k k1 k2 => ?_
    by_cases e : k = first
    · subst e; exact ⟨i, Nat.le_refl _, swp_left _ _ _⟩
    · exact ⟨k - first, by omega, by rw [swp_other d (by omega) (by omega)]; congr 1; omega⟩
  refine ⟨fun p q h1 h2 h3 => ?_, fun p q h1 h2 h3 => ?_⟩
  · obtain ⟨p', hp', e⟩ := inn (first + p) (by omega) (by omega)
    rw [e]
    by_cases eq : q = i
    · subst eq; rw [oi]; exact hmax p' (by omega)
    · rw [oq q (by omega)]; exact hle p' q hp' (by omega) h3
  · obtain ⟨p', rfl⟩ : ∃ p', p = first + p' := ⟨p - first, by omega⟩
    obtain ⟨q', rfl⟩ : ∃ q', q = first + q' := ⟨q - first, by omega⟩
    rw [oq q' (by omega)]
    by_cases ep : p' = i
    · subst ep; rw [oi]; have := hle 0 q' (by omega) (by omega) (by omega); simpa using this
    · rw [oq p' (by omega)]; exact hso _ _ (by omega) (by omega) (by omega)

theorem heap_swapped {first i : Nat} {d : Nat → Int} (hH : Heap 0 (i + 1) first d) : Heap 1 i first (swp d first (first + i)) := by
  intro k c h1 h2 h3
  rw [swp_other d (k := first + c) (by omega) (by omega), swp_other d (k := first + k) (by omega) (by omega)]
  exact hH k c (by omega) (by omega) h3

set_option maxRecDepth 100000 in
set_option maxHeartbeats 2000000 in
theorem heapSort_any {w : World} {base g n cap a b : Nat} {d : Nat → Int} (h : Rw w base g n cap d) (hab : a < b) (hb : b ≤ n) (hn : n ≤ 16384) :
    Calls Yba.prog 39 #[.slice (some ⟨g, 0, none⟩) n cap, .int .i64 (a : Int), .int .i64 (b : Int)] w fun e w' => e = .returned (.tuple #[]) ∧ Srt w base g n cap a b d w' := by
  obtain ⟨hi, rfl⟩ : ∃ hi, b = a + hi := ⟨b - a, by omega⟩
  have a1 : (a : Int) ≤ 16384 := by omega
  have a2 : (hi : Int) ≤ 16384 := by omega
  have a0 : (0 : Int) ≤ (a : Int) := by omega
  have a3 : (0 : Int) < (hi : Int) := by omega
  have eb : ((a + hi : Nat) : Int) = (a : Int) + (hi : Int) := by omega
  have es : (a : Int) + (hi : Int) - (a : Int) = (hi : Int) := by omega
  rw [eb]
  go_enter Yba.func39, Yba.ntmps39
  go_wp2
  go_loopw [9] (fun x W => ∃ (k : Nat) (e : Nat → Int), x = .int .i64 ((k : Int) - 1) ∧ k ≤ hi ∧ Now w W base g n cap e ∧ Swaps a (a + hi) d e ∧ Heap k hi a e) (fun x _ => (intOf x + 1).toNat)
  case atStart =>
    refine ⟨(hi - 1) / 2 + 1, d, ?_, by omega, Now.start h, Swaps.refl _ _ _, fun i c h1 h2 h3 => by omega⟩
    congr 1; omega
  case round =>
    obtain ⟨k, e, rfl, hk, hN, hSw, hH⟩ := hrel
    cases k with
    | succ q =>
      have e1 : ((q + 1 : Nat) : Int) - 1 = (q : Int) := by omega
      rw [e1]
      have q0 : (0 : Int) ≤ (q : Int) := by omega
      have q1 : (q : Int) ≤ 16384 := by omega
      clear e1
      go_wp2_with fail
      refine (sift_any hN.1 (by omega) hn (by omega) hH).mono ?_
      rintro e' W2 ⟨rfl, f, hN2, hSw2, hH2⟩
      go_wp2
      exact ⟨⟨q, f, rfl, by omega, hN.trans hN2, hSw.trans hSw2, hH2⟩, by simp [intOf]⟩
    | zero =>
      have e1 : ((0 : Nat) : Int) - 1 = -1 := rfl
      rw [e1]
      clear e1
      go_wp2
      go_loopw [10] (fun x W => ∃ (k : Nat) (e : Nat → Int), x = .int .i64 ((k : Int) - 1) ∧ k ≤ hi ∧ Now w W base g n cap e ∧ Swaps a (a + hi) d e ∧ Heap 0 k a e ∧ (∀ p q, p < k → k ≤ q → q < hi → e (a + p) ≤ e (a + q)) ∧ Sorted (a + k) (a + hi) e) (fun x _ => (intOf x + 1).toNat)
      case atStart => exact ⟨hi, e, rfl, by omega, hN, hSw, hH, fun p q h1 h2 h3 => by omega, fun p q h1 h2 h3 => by omega⟩
      case round =>
        clear hN hSw hH
        obtain ⟨k, f, rfl, hk, hN, hSw, hH, hle, hso⟩ := hrel
        cases k with
        | succ q =>
          have e1 : ((q + 1 : Nat) : Int) - 1 = (q : Int) := by omega
          rw [e1]
          have q0 : (0 : Int) ≤ (q : Int) := by omega
          have q1 : (q : Int) ≤ 16384 := by omega
          have i1 : (a : Int) < (n : Int) := by omega
          have i2 : (a : Int) + (q : Int) < (n : Int) := by omega
          have i3 : (0 : Int) ≤ (a : Int) + (q : Int) := by omega
          have c1 := hN.1.cell (i := a) (by omega)
          have c2 := hN.1.cell (i := a + q) (by omega)
          have cs := hN.1.second (i := a) (j := a + q) (by omega) (by omega)
          have fz := hN.1.frozen
          have HLE := hide hle
          have HSO := hide hso
          clear e1 hle hso
          go_wp2_with fail
          go_region
          go_wp2_with fail
          have hN2 := hN.swap (i := a) (j := a + q) (by omega) (by omega)
          refine (sift_any (d := swp f a (a + q)) (lo := 0) (hi := q) (first := a) hN2.1.drew (by omega) hn (by omega) (heap_swapped hH)).mono ?_
          rintro e' W2 ⟨rfl, f', hN3, hSw3, hH3⟩
          go_wp2
          obtain ⟨r1, r2⟩ := heap_pop (hi := hi) (by omega) hH (fun p q' h1 h2 h3 => HLE.out p q' (by omega) (by omega) h3) (by have := HSO.out; simpa [Nat.add_assoc] using this) hSw3
          exact ⟨⟨q, f', rfl, by omega, (hN2.drewN 1).trans hN3, (hSw.swp (by omega) (by omega) (by omega) (by omega)).trans (hSw3.mono (Nat.le_refl _) (by omega)), hH3, r1, r2⟩, by simp [intOf]⟩
        | zero =>
          have e1 : ((0 : Nat) : Int) - 1 = -1 := rfl
          rw [e1]
          clear e1
          go_wp2
          go_end0
          exact ⟨rfl, f, hN, hSw, by simpa using hso⟩
end Go.Proofs.Ybulkfhsm.C
