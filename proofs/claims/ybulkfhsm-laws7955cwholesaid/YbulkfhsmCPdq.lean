/-
  pdqsortOrdered, Sort.
-/
import Derived.Test.YbulkfhsmCHeap
import Derived.Test.YbulkfhsmCPeq
import Derived.Test.YbulkfhsmCPins
import Derived.Test.YbulkfhsmCPivot
namespace Go.Proofs.Ybulkfhsm.C
open Go.RowKit
attribute [local go_sem ↓] Go.wp_at_zero Go.wp_at_succ

/-- Only [p, q) of [a, b) is still to be sorted. -/
def Done (a b p q : Nat) (e : Nat → Int) : Prop := ∀ i j, a ≤ i → i < j → j < b → i < p ∨ q ≤ j → e i ≤ e j

theorem Done.start (a b : Nat) (e : Nat → Int) : Done a b a b e := fun i j h1 h2 h3 h4 => by omega

theorem Done.swaps {a b p q : Nat} {e f : Nat → Int} (h : Done a b p q e) (hS : Swaps p q e f) (hp : a ≤ p) (hq : q ≤ b) : Done a b p q f := by
  intro i j h1 h2 h3 h4
  by_cases hi : i < p
  · rw [hS.out (k := i) (.inl hi)]
    by_cases hj : p ≤ j ∧ j < q
    · exact hS.all (fun x => e i ≤ x) (fun k k1 k2 => h i k h1 (by omega) (by omega) (.inl hi)) j hj.1 hj.2
    · rw [hS.out (k := j) (by omega)]; exact h i j h1 h2 h3 (.inl hi)
  · have hj : q ≤ j := by omega
    rw [hS.out (k := j) (.inr hj)]
    by_cases hi2 : i < q
    · exact hS.all (fun x => x ≤ e j) (fun k k1 k2 => h k j (by omega) (by omega) h3 (.inr hj)) i (by omega) hi2
    · rw [hS.out (k := i) (.inr (by omega))]; exact h i j h1 h2 h3 h4

theorem Done.sorted {a b p q : Nat} {e : Nat → Int} (h : Done a b p q e) (hs : Sorted p q e) : Sorted a b e := fun i j h1 h2 h3 => by
  by_cases hc : i < p ∨ q ≤ j
  · exact h i j h1 h2 h3 hc
  · exact hs i j (by omega) h2 (by omega)

theorem Done.low {a b p q : Nat} {e : Nat → Int} (h : Done a b p q e) (hL : Low a b e) (hp : a ≤ p) (hq : q ≤ b) : Low p q e := fun h0 k k1 k2 => by
  by_cases hc : p = a
  · subst hc; exact hL h0 k k1 (by omega)
  · exact h (p - 1) k (by omega) (by omega) (by omega) (.inl (by omega))

/-- The left part has been sorted. -/
theorem Done.left {a b p q m : Nat} {e f : Nat → Int} (h : Done a b p q e) (hp : a ≤ p) (hq : q ≤ b) (hm : p ≤ m) (hmq : m < q) (h1 : ∀ k, p ≤ k → k < m → e k ≤ e m) (h2 : ∀ k, m < k → k < q → e m ≤ e k)
    (hS : Swaps p m e f) (hs : Sorted p m f) : Done a b (m + 1) q f := by
  have hD := h.swaps (hS.mono (Nat.le_refl _) (Nat.le_of_lt hmq)) hp hq
  have om : f m = e m := hS.out (.inr (Nat.le_refl _))
  have le : ∀ k, p ≤ k → k < m → f k ≤ e m := hS.all (fun x => x ≤ e m) h1
  have o : ∀ k, m ≤ k → f k = e k := fun k hk => hS.out (.inr hk)
  intro i j g1 g2 g3 g4
  by_cases hi : i < p
  · exact hD i j g1 g2 g3 (.inl hi)
  · by_cases hj : q ≤ j
    · exact hD i j g1 g2 g3 (.inr hj)
    · by_cases hjm : j < m
      · exact hs i j (by omega) g2 hjm
      · rw [o j (by omega)]
        have ej : e m ≤ e j := by
          by_cases ejm : j = m
          · subst ejm; exact Int.le_refl _
          · exact h2 j (by omega) (by omega)
        by_cases him : i = m
        · subst him; rw [om]; exact ej
        · have := le i (by omega) (by omega); omega

/-- The right part has been sorted. -/
theorem Done.right {a b p q m : Nat} {e f : Nat → Int} (h : Done a b p q e) (hp : a ≤ p) (hq : q ≤ b) (hm : p ≤ m) (hmq : m < q) (h1 : ∀ k, p ≤ k → k < m → e k ≤ e m) (h2 : ∀ k, m < k → k < q → e m ≤ e k)
    (hS : Swaps (m + 1) q e f) (hs : Sorted (m + 1) q f) : Done a b p m f := by
  have hD := h.swaps (hS.mono (by omega) (Nat.le_refl _)) hp hq
  have o : ∀ k, k ≤ m → f k = e k := fun k hk => hS.out (.inl (by omega))
  have ge : ∀ k, m + 1 ≤ k → k < q → e m ≤ f k := hS.all (fun x => e m ≤ x) fun k k1 k2 => h2 k (by omega) k2
  intro i j g1 g2 g3 g4
  by_cases hi : i < p
  · exact hD i j g1 g2 g3 (.inl hi)
  · by_cases hj : q ≤ j
    · exact hD i j g1 g2 g3 (.inr hj)
    · by_cases hjm : j = m
      · subst hjm; rw [o j (Nat.le_refl _), o i (by omega)]; exact h1 i (by omega) (by omega)
      · by_cases him : m < i
        · exact hs i j (by omega) g2 (by omega)
        · have e1 := ge j (by omega) (by omega)
          rw [o i (by omega)]
          by_cases eim : i = m
          · subst eim; exact e1
          · have := h1 i (by omega) (by omega); omega

/-- What is equal to the pivot lies at the left, and the pivot is least. -/
theorem Done.equal {a b p q m : Nat} {e f : Nat → Int} {x : Int} (h : Done a b p q e) (hp : a ≤ p) (hq : q ≤ b) (h0 : ∀ k, p ≤ k → k < q → x ≤ e k)
    (hS : Swaps p q e f) (h1 : ∀ k, p ≤ k → k < m → f k ≤ x) : Done a b m q f := by
  have hD := h.swaps hS hp hq
  have ge := hS.all (fun y => x ≤ y) h0
  intro i j g1 g2 g3 g4
  by_cases hi : i < p
  · exact hD i j g1 g2 g3 (.inl hi)
  · by_cases hj : q ≤ j
    · exact hD i j g1 g2 g3 (.inr hj)
    · have e1 := h1 i (by omega) (by omega)
      have e2 := ge j (by omega) (by omega)
      omega

/-- What the loop keeps. -/
def Pq (w W : World) (base g n cap a b : Nat) (d : Nat → Int) (p q : Nat) : Prop := ∃ e, Now w W base g n cap e ∧ Swaps a b d e ∧ Done a b p q e ∧ Low p q e

theorem Pq.turn {w W W' : World} {base g n cap a b p q : Nat} {d e e' : Nat → Int} (hN : Now w W base g n cap e) (hS : Swaps a b d e) (hD : Done a b p q e) (hL : Low p q e) (hp : a ≤ p) (hq : q ≤ b)
    (hN2 : Now W W' base g n cap e') (hS2 : Swaps p q e e') : Now w W' base g n cap e' ∧ Swaps a b d e' ∧ Done a b p q e' ∧ Low p q e' :=
  ⟨hN.trans hN2, hS.trans (hS2.mono hp hq), hD.swaps hS2 hp hq, hL.swaps hS2⟩

set_option maxRecDepth 100000 in
set_option maxHeartbeats 8000000 in
theorem pdq_any {base g n cap : Nat} (hn : n ≤ 16384) (N : Nat) : ∀ (w : World) (a b lim : Nat) (d : Nat → Int), Rw w base g n cap d → a ≤ b → b ≤ n → b - a < N → lim ≤ 64 → Low a b d →
    Calls Yba.prog 34 #[.slice (some ⟨g, 0, none⟩) n cap, .int .i64 (a : Int), .int .i64 (b : Int), .int .i64 (lim : Int)] w fun e w' => e = .returned (.tuple #[]) ∧ Srt w base g n cap a b d w' := by
  induction N with
  | zero => intro w a b lim d _ _ _ h _ _; omega
  | succ N IH =>
  intro w a b lim d h hab hb hbn hlim hlow
  have HIH := hide IH
  clear IH
  go_enter Yba.func34, Yba.ntmps34
  go_wp2_with fail
  go_loopw [1, 2, 3, 8, 9] (fun xa xb xl x8 x9 W => ∃ (p q lim : Nat) (t8 t9 : Bool), xa = .int .i64 (p : Int) ∧ xb = .int .i64 (q : Int) ∧ xl = .int .i64 (lim : Int) ∧ x8 = .bool t8 ∧ x9 = .bool t9 ∧ a ≤ p ∧ p ≤ q ∧ q ≤ b ∧ lim ≤ 64 ∧ Pq w W base g n cap a b d p q) (fun xa xb _ _ _ _ => (intOf xb).toNat - (intOf xa).toNat)
  case atStart => exact ⟨a, b, lim, true, true, rfl, rfl, rfl, rfl, rfl, by omega, hab, by omega, hlim, d, Now.start h, Swaps.refl _ _ _, Done.start _ _ _, hlow⟩
  case round =>
  clear hlow hlim
  obtain ⟨p, q, lim, t8, t9, rfl, rfl, rfl, rfl, rfl, hap, hpq, hqb, hlim, e, hN, hS, hD, hL⟩ := hrel
  have p0 : (0 : Int) ≤ (p : Int) := by omega
  have p1 : (p : Int) ≤ 16384 := by omega
  have q0 : (0 : Int) ≤ (q : Int) := by omega
  have q1 : (q : Int) ≤ 16384 := by omega
  have l0 : (0 : Int) ≤ (lim : Int) := by omega
  have l1 : (lim : Int) ≤ 64 := by omega
  by_cases h12 : q - p ≤ 12
  · have t1 : (q : Int) - (p : Int) ≤ 12 := by omega
    go_wp2_with fail
    refine (insertion_any hN.1 hpq (by omega) hn).mono ?_
    rintro e' W2 ⟨rfl, f, hN2, hS2, hSo⟩
    go_wp2
    refine bodyPost_ret (results_none rfl _ _ _) rfl ?_
    obtain ⟨r1, r2, r3, r4⟩ := Pq.turn hN hS hD hL hap hqb hN2 hS2
    exact ⟨rfl, f, r1, r2, r3.sorted hSo⟩
  · have t1 : ¬ (q : Int) - (p : Int) ≤ 12 := by omega
    by_cases hl0 : lim = 0
    · subst hl0
      go_wp2_with fail
      refine (heapSort_any hN.1 (by omega) (by omega) hn).mono ?_
      rintro e' W2 ⟨rfl, f, hN2, hS2, hSo⟩
      go_wp2
      refine bodyPost_ret (results_none rfl _ _ _) rfl ?_
      obtain ⟨r1, r2, r3, r4⟩ := Pq.turn hN hS hD hL hap hqb hN2 hS2
      exact ⟨rfl, f, r1, r2, r3.sorted hSo⟩
    · have t2 : ((lim : Int) == 0) = false := by simp; omega
      have l2 : (1 : Int) ≤ (lim : Int) := by omega
      go_upto_if 35 with (fail)
      go_cut [3] from 19 to 133 (fun x W => (∃ lim' : Nat, x = .int .i64 (lim' : Int) ∧ lim' ≤ 64) ∧ Pq w W base g n cap a b d p q)
      case first =>
        cases t8
        · go_wp2_with fail
          refine (break_any hN.1 hpq (by omega) hn).mono ?_
          rintro e' W2 ⟨rfl, f, hN2, hS2⟩
          go_wp2
          go_meet
          case rel => exact ⟨⟨lim - 1, by congr 1; omega, by omega⟩, f, Pq.turn hN hS hD hL hap hqb hN2 hS2⟩
        · go_wp2
          go_meet
          case rel => exact ⟨⟨lim, rfl, hlim⟩, e, hN, hS, hD, hL⟩
      case rest =>
      clear hN hS hD hL l0 l1 l2 t2 hl0 hlim
      obtain ⟨⟨lim', rfl, hlim⟩, e, hN, hS, hD, hL⟩ := hcut
      have l0 : (0 : Int) ≤ (lim' : Int) := by omega
      have l1 : (lim' : Int) ≤ 64 := by omega
      go_wp2_with fail
      refine (pivot_any hN.1 (by omega) (by omega) hn).mono ?_
      rintro e' W2 ⟨⟨m, hint, rfl, m1, m2⟩, hN2⟩
      have hNN := hN.trans hN2
      clear hN hN2
      have m3 : (0 : Int) ≤ (m : Int) := by omega
      have m4 : (m : Int) ≤ 16384 := by omega
      go_upto_if 50 with (fail)
      go_cut [11, 12] from 19 to 133 (fun x y W => (∃ m : Nat, x = .int .i64 (m : Int) ∧ p ≤ m ∧ m < q) ∧ (∃ hint : Int, y = .int .i64 hint) ∧ Pq w W base g n cap a b d p q)
      case first =>
        by_cases h2 : hint = 2
        · subst h2
          go_wp2_with fail
          refine (reverse_any hNN.1 hpq (by omega) hn).mono ?_
          rintro e' W3 ⟨rfl, f, hN3, hS3⟩
          go_wp2
          go_meet
          case rel => exact ⟨⟨q - 1 - (m - p), by congr 1; omega, by omega, by omega⟩, ⟨_, rfl⟩, f, Pq.turn hNN hS hD hL hap hqb hN3 hS3⟩
        · have t2 : (hint == 2) = false := by simpa using h2
          go_wp2
          go_meet
          case rel => exact ⟨⟨m, rfl, m1, m2⟩, ⟨_, rfl⟩, e, hNN, hS, hD, hL⟩
      case rest =>
      clear hNN hS hD hL m1 m2 m3 m4
      obtain ⟨⟨m', rfl, m1, m2⟩, ⟨hint', rfl⟩, e, hN, hS, hD, hL⟩ := hcut
      have m3 : (0 : Int) ≤ (m' : Int) := by omega
      have m4 : (m' : Int) ≤ 16384 := by omega
      have m5 : (m' : Int) < (n : Int) := by omega
      go_upto_region 15 with (fail)
      go_cut [68] from 19 to 133 (fun x W => (∃ c : Bool, x = .bool c) ∧ W = wc)
      case first =>
        cases t8
        · go_wp2
          go_meet
          case rel => exact ⟨⟨_, rfl⟩, rfl⟩
        · cases t9
          · go_wp2
            go_meet
            case rel => exact ⟨⟨_, rfl⟩, rfl⟩
          · go_wp2
            go_meet
            case rel => exact ⟨⟨_, rfl⟩, rfl⟩
      case rest =>
      obtain ⟨⟨c, rfl⟩, ew⟩ := hcut
      obtain rfl := ew.symm
      go_upto_if 68 with (fail)
      go_cut [] from 19 to 133 (fun W => Pq w W base g n cap a b d p q)
      case first =>
        cases c
        · go_wp2
          go_meet
          case rel => exact ⟨e, hN, hS, hD, hL⟩
        · go_wp2_with fail
          refine (partIns_any hN.1 (by omega) (by omega) hn hL).mono ?_
          rintro e' W3 ⟨t, rfl, f, hN3, hS3, hso⟩
          have HP := hide (Pq.turn hN hS hD hL hap hqb hN3 hS3)
          have HSO := hide hso
          clear hso
          cases t
          · go_wp2
            go_meet
            case rel => exact ⟨f, HP.out⟩
          · go_wp2
            refine bodyPost_ret (results_none rfl _ _ _) rfl ?_
            exact ⟨rfl, f, HP.out.1, HP.out.2.1, HP.out.2.2.1.sorted (by simpa using HSO.out)⟩
      case rest =>
      clear hN hS hD hL
      obtain ⟨e, hN, hS, hD, hL⟩ := hcut
      have HS := hide hS
      have HD := hide hD
      have HL := hide hL
      clear hS hD hL
      go_upto_region 17 with (fail)
      go_cut [87] from 19 to 133 (fun x W => (∃ c : Bool, x = .bool c ∧ (c = true → 0 < p ∧ e m' ≤ e (p - 1))) ∧ Now w W base g n cap e)
      case first =>
        cases p with
        | zero =>
          go_quiet (fail)
          go_wp2
          go_meet
          case rel => exact ⟨⟨false, rfl, fun hf => by simp at hf⟩, hN.drewN _⟩
        | succ r =>
          have e1 : ((r + 1 : Nat) : Int) = (r : Int) + 1 := by omega
          rw [e1]
          have r0 : (0 : Int) ≤ (r : Int) := by omega
          have r1 : (r : Int) < (n : Int) := by omega
          have r2 : (r : Int) ≤ 16384 := by omega
          have r3 : (0 : Int) < (r : Int) + 1 := by omega
          have c1 := hN.1.cell (i := r) (by omega)
          have c2 := hN.1.cell (i := m') (by omega)
          clear e1 p0 p1
          go_quiet ((go_at_call 44; exact Calls.quiet_of_same (less_any _ _ _)))
          go_wp2
          go_meet
          case rel =>
            refine ⟨⟨_, rfl, fun hf => ⟨by omega, ?_⟩⟩, hN.drewN _⟩
            simp only [Nat.add_sub_cancel]
            simp at hf
            omega
      case rest =>
      clear hN
      obtain ⟨⟨c, rfl, hc⟩, hN⟩ := hcut
      have HC := hide hc
      clear hc
      go_upto_if 87 with (fail)
      cases c
      · clear HC
        go_wp2_with fail
        refine (partition_any hN.1 m1 m2 (by omega) hn).mono ?_
        rintro e' W3 ⟨mid, t, rfl, f, hN3, hS3, k1, k2, hlo, hhi⟩
        have HP := hide (Pq.turn hN HS.out HD.out HL.out hap hqb hN3 hS3)
        have HLO := hide hlo
        have HHI := hide hhi
        clear hlo hhi
        have g0 : (0 : Int) ≤ (mid : Int) := by omega
        have g1 : (mid : Int) ≤ 16384 := by omega
        by_cases hlr : mid - p < q - mid
        · have t2 : (mid : Int) - (p : Int) < (q : Int) - (mid : Int) := by omega
          go_wp2_with fail
          refine (HIH.out W3 p mid lim' f (HP.out.1.1) k1 (by omega) (by omega) hlim (fun h0 k r1 r2 => HP.out.2.2.2 h0 k r1 (by omega))).mono ?_
          rintro e' W4 ⟨rfl, f2, hN4, hS4, hSo4⟩
          go_wp2
          refine ⟨⟨mid + 1, q, lim', _, _, by go_num, rfl, rfl, rfl, rfl, by omega, by omega, hqb, hlim, f2, HP.out.1.trans hN4, HP.out.2.1.trans (hS4.mono hap (by omega)), HP.out.2.2.1.left hap hqb k1 k2 HLO.out HHI.out hS4 hSo4, ?_⟩, by simp [intOf]; omega⟩
          intro h0 k r1 r2
          simp only [Nat.add_sub_cancel]
          rw [hS4.out (.inr (Nat.le_refl _)), hS4.out (.inr (by omega))]
          exact HHI.out k (by omega) r2
        · have t2 : ¬ (mid : Int) - (p : Int) < (q : Int) - (mid : Int) := by omega
          have HCALL := hide (HIH.out W3 (mid + 1) q lim' f (HP.out.1.1) (by omega) (by omega) (by omega) hlim (fun h0 k r1 r2 => by simp only [Nat.add_sub_cancel]; exact HHI.out k (by omega) r2))
          rw [show ((mid + 1 : Nat) : Int) = (mid : Int) + 1 by omega] at HCALL
          go_wp2_with fail
          refine HCALL.out.mono ?_
          rintro e' W4 ⟨rfl, f2, hN4, hS4, hSo4⟩
          go_wp2
          refine ⟨⟨p, mid, lim', _, _, rfl, rfl, rfl, rfl, rfl, by omega, by omega, by omega, hlim, f2, HP.out.1.trans hN4, HP.out.2.1.trans (hS4.mono (by omega) hqb), HP.out.2.2.1.right hap hqb k1 k2 HLO.out HHI.out hS4 hSo4, ?_⟩, by simp [intOf]; omega⟩
          intro h0 k r1 r2
          rw [hS4.out (.inl (by omega)), hS4.out (.inl (by omega))]
          exact HP.out.2.2.2 h0 k r1 (by omega)
      · go_wp2_with fail
        refine (partitionEqual_any hN.1 m1 m2 (by omega) hn).mono ?_
        rintro e' W3 ⟨mid, rfl, f, hN3, hS3, k1, k2, hlo, hhi⟩
        have HP := hide (Pq.turn hN HS.out HD.out HL.out hap hqb hN3 hS3)
        have HLO := hide hlo
        have HHI := hide hhi
        clear hlo hhi
        go_wp2
        have hcc := HC.out (by first | rfl | trivial)
        have hle : ∀ k, p ≤ k → k < q → e m' ≤ e k := fun k r1 r2 => by have := HL.out hcc.1 k r1 r2; omega
        refine ⟨⟨mid, q, lim', _, _, rfl, rfl, rfl, rfl, rfl, by omega, by omega, hqb, hlim, f, HP.out.1, HP.out.2.1, HD.out.equal hap hqb hle hS3 HLO.out, ?_⟩, by simp [intOf]; omega⟩
        intro h0 k r1 r2
        have e1 := HLO.out (mid - 1) (by omega) (by omega)
        have e2 := HHI.out k r1 r2
        omega
end Go.Proofs.Ybulkfhsm.C
