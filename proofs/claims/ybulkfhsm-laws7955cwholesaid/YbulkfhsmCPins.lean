/-
  The insertion sort that gives up.
-/
import Derived.Test.YbulkfhsmCIns
namespace Go.Proofs.Ybulkfhsm.C
open Go.RowKit
attribute [local go_sem ↓] Go.wp_at_zero Go.wp_at_succ

theorem sorted_swp {a i p q : Nat} {f : Nat → Int} (h : Sorted a i f) (hp : i ≤ p) (hq : i ≤ q) : Sorted a i (swp f p q) := fun k r h1 h2 h3 => by
  rw [swp_other f (k := k) (by omega) (by omega), swp_other f (k := r) (by omega) (by omega)]; exact h k r h1 h2 h3

theorem ins_first {a q : Nat} {e : Nat → Int} (h : Sorted a (q + 1) e) : Ins a q q (swp e (q + 1) q) :=
  ⟨fun k r h1 h2 h3 h4 h5 => by rw [swp_other e (k := k) (by omega) (by omega), swp_other e (k := r) (by omega) (by omega)]; exact h k r h1 h2 (by omega), fun r h1 h2 => by omega⟩

/-- What lies before the range is not greater than what lies in it. -/
def Low (a b : Nat) (d : Nat → Int) : Prop := 0 < a → ∀ k, a ≤ k → k < b → d (a - 1) ≤ d k

theorem Low.swaps {a b : Nat} {d e : Nat → Int} (h : Low a b d) (hS : Swaps a b d e) : Low a b e := fun ha k k1 k2 => by
  rw [hS.out (k := a - 1) (.inl (by omega))]
  exact hS.all (fun x => d (a - 1) ≤ x) (h ha) k k1 k2

set_option maxRecDepth 100000 in
set_option maxHeartbeats 4000000 in
theorem partIns_any {w : World} {base g n cap a b : Nat} {d : Nat → Int} (h : Rw w base g n cap d) (hab : a < b) (hb : b ≤ n) (hn : n ≤ 16384) (hlow : Low a b d) :
    Calls Yba.prog 43 #[.slice (some ⟨g, 0, none⟩) n cap, .int .i64 (a : Int), .int .i64 (b : Int)] w fun e w' => ∃ t : Bool, e = .returned (.bool t) ∧ ∃ d', Now w w' base g n cap d' ∧ Swaps a b d d' ∧ (t = true → Sorted a b d') := by
  have a0 : (0 : Int) ≤ (a : Int) := by omega
  have a1 : (a : Int) < 16384 := by omega
  have b1 : (b : Int) ≤ 16384 := by omega
  have b2 : (b : Int) ≤ (n : Int) := by omega
  have b3 : (a : Int) < (b : Int) := by omega
  have HLOW := hide hlow
  clear hlow
  go_enter Yba.func43, Yba.ntmps43
  go_wp2_with fail
  go_loopw [7, 8] (fun x y W => ∃ (i j : Nat) (e : Nat → Int), x = .int .i64 (i : Int) ∧ y = .int .i64 (j : Int) ∧ a < i ∧ i ≤ b ∧ j ≤ 5 ∧ Now w W base g n cap e ∧ Swaps a b d e ∧ Sorted a i e) (fun _ y _ => 5 - (intOf y).toNat)
  case atStart => exact ⟨a + 1, 0, d, by go_num, rfl, by omega, by omega, by omega, Now.start h, Swaps.refl _ _ _, fun p q h1 h2 h3 => by omega⟩
  case round =>
    obtain ⟨i₀, s, e₀, rfl, rfl, hi1, hi2, hs, hN0, hS0, hSo0⟩ := hrel
    by_cases hs5 : s < 5
    · have s1 : (s : Int) < 5 := by omega
      have s0 : (0 : Int) ≤ (s : Int) := by omega
      have HSo0 := hide hSo0
      clear hSo0
      go_upto_block 2 with (fail)
      go_cut [7] from 13 to 132 (fun x W => ∃ (i : Nat) (e : Nat → Int), x = .int .i64 (i : Int) ∧ a < i ∧ i ≤ b ∧ Now w W base g n cap e ∧ Swaps a b d e ∧ Sorted a i e)
      case first =>
        go_wp2_with fail
        go_loopw [7] (fun x W => ∃ (i : Nat) (e : Nat → Int), x = .int .i64 (i : Int) ∧ a < i ∧ i ≤ b ∧ Now w W base g n cap e ∧ Swaps a b d e ∧ Sorted a i e) (fun x _ => b + 1 - (intOf x).toNat)
        case atStart => exact ⟨i₀, e₀, rfl, hi1, hi2, hN0, hS0, HSo0.out⟩
        case round =>
          clear hN0 hS0 HSo0
          obtain ⟨i, e, rfl, hai, hib, hN, hS, hSo⟩ := hrel
          have HSo := hide hSo
          clear hSo
          obtain ⟨q, rfl⟩ : ∃ q, i = q + 1 := ⟨i - 1, by omega⟩
          have e1 : ((q + 1 : Nat) : Int) = (q : Int) + 1 := by omega
          rw [e1]
          have q0 : (0 : Int) ≤ (q : Int) := by omega
          have q1 : (q : Int) < (n : Int) := by omega
          have q2 : (q : Int) < 16384 := by omega
          clear e1
          by_cases hlt : q + 1 < b
          · have l1 : (q : Int) + 1 < (b : Int) := by omega
            have l2 : (q : Int) + 1 < (n : Int) := by omega
            have l3 : (0 : Int) ≤ (q : Int) + 1 := by omega
            have c1 := hN.1.cell (i := q + 1) (by omega)
            have c2 := hN.1.cell (i := q) (by omega)
            by_cases hl : e (q + 1) < e q
            · have hd : decide (e (q + 1) < e q) = true := by simpa using hl
              clear hl
              go_wp2_with fail
              go_quiet ((go_at_call 44; exact Calls.quiet_of_same (less_any _ _ _)))
              go_wp2
              go_meet
              case rel => exact ⟨q + 1, e, by go_num, hai, hib, hN.drewN _, hS, HSo.out⟩
            · have hd : decide (e (q + 1) < e q) = false := by simpa using hl
              have HL := hide hl
              clear hl
              go_wp2_with fail
              go_quiet ((go_at_call 44; exact Calls.quiet_of_same (less_any _ _ _)))
              go_wp2
              refine ⟨⟨q + 1 + 1, e, by go_num, by omega, by omega, hN.drewN _, hS, fun k r h1 h2 h3 => ?_⟩, by simp [intOf]; omega⟩
              by_cases er : r = q + 1
              · subst er
                have h5 := HL.out
                by_cases ek : k = q
                · subst ek; omega
                · have := HSo.out k q h1 (by omega) (by omega); omega
              · exact HSo.out k r h1 h2 (by omega)
          · have l1 : decide ((q : Int) + 1 < (b : Int)) = false := by simp; omega
            go_wp2_with fail
            go_quiet (fail)
            go_wp2
            go_meet
            case rel => exact ⟨q + 1, e, by go_num, hai, hib, hN.drewN _, hS, HSo.out⟩
      case rest =>
      clear hN0 hS0 HSo0 hi1 hi2
      obtain ⟨i, e, rfl, hai, hib, hN, hS, hSo⟩ := hcut
      have HSo := hide hSo
      clear hSo
      by_cases hend : i = b
      · subst hend
        have t1 : ((i : Int) == (i : Int)) = true := by simp
        go_wp2
        go_ret
        exact ⟨true, rfl, e, hN, hS, fun _ => HSo.out⟩
      · have t1 : ((i : Int) == (b : Int)) = false := by simp; omega
        by_cases hsh : b - a < 50
        · have t2 : (b : Int) - (a : Int) < 50 := by omega
          go_wp2
          go_ret
          exact ⟨false, rfl, e, hN, hS, fun hf => by simp at hf⟩
        · have t2 : ¬ (b : Int) - (a : Int) < 50 := by omega
          obtain ⟨q, rfl⟩ : ∃ q, i = q + 1 := ⟨i - 1, by omega⟩
          have e1 : ((q + 1 : Nat) : Int) = (q : Int) + 1 := by omega
          rw [e1] at t1 ⊢
          have q0 : (0 : Int) ≤ (q : Int) := by omega
          have q1 : (q : Int) < (n : Int) := by omega
          have q2 : (q : Int) < 16384 := by omega
          have l2 : (q : Int) + 1 < (n : Int) := by omega
          have l3 : (0 : Int) ≤ (q : Int) + 1 := by omega
          have c1 := hN.1.cell (i := q + 1) (by omega)
          have c2 := hN.1.cell (i := q) (by omega)
          have cs := hN.1.second (i := q + 1) (j := q) (by omega) (by omega)
          have fz := hN.1.frozen
          clear e1
          go_upto_region 11 with (fail)
          go_cut [] from 13 to 132 (fun W => ∃ e', Now w W base g n cap e' ∧ Swaps a b d e' ∧ Ins a q q e')
          case first =>
            go_region
            go_wp2
            go_meet
            case rel => exact ⟨swp e (q + 1) q, (hN.drewN _).swap (by omega) (by omega), hS.swp (by omega) (by omega) (by omega) (by omega), ins_first HSo.out⟩
          case rest =>
          clear hN hS HSo c1 c2 cs fz t1 t2
          obtain ⟨e', hN, hS, hI⟩ := hcut
          have HI := hide hI
          clear hI
          go_upto_if 61 with (fail)
          go_cut [] from 13 to 132 (fun W => ∃ e', Now w W base g n cap e' ∧ Swaps a b d e' ∧ Sorted a (q + 1) e')
          case first =>
            by_cases h2 : a + 2 ≤ q + 1
            · have t1 : (2 : Int) ≤ (q : Int) + 1 - (a : Int) := by omega
              go_wp2_with fail
              go_loopw [9] (fun x W => ∃ (j : Nat) (f : Nat → Int), x = .int .i64 (j : Int) ∧ a ≤ j ∧ j ≤ q ∧ Now w W base g n cap f ∧ Swaps a b d f ∧ Ins a q j f) (fun x _ => (intOf x).toNat)
              case atStart => exact ⟨q, e', rfl, by omega, by omega, hN, hS, HI.out⟩
              case round =>
                clear hN hS HI t1
                obtain ⟨j, f, rfl, haj, hjq, hN, hS, hI⟩ := hrel
                have HI := hide hI
                clear hI
                cases j with
                | zero =>
                  obtain rfl : a = 0 := by omega
                  go_wp2
                  go_meet
                  case rel => exact ⟨f, hN, hS, ins_done HI.out (by omega) (.inl (Nat.le_refl _))⟩
                | succ r =>
                  have e1 : ((r + 1 : Nat) : Int) = (r : Int) + 1 := by omega
                  rw [e1]
                  have r0 : (0 : Int) ≤ (r : Int) := by omega
                  have r1 : (r : Int) < (n : Int) := by omega
                  have r2 : (r : Int) < 16384 := by omega
                  have r3 : (1 : Int) ≤ (r : Int) + 1 := by omega
                  have r4 : (r : Int) + 1 < (n : Int) := by omega
                  have r5 : (0 : Int) ≤ (r : Int) + 1 := by omega
                  have c1 := hN.1.cell (i := r + 1) (by omega)
                  have c2 := hN.1.cell (i := r) (by omega)
                  have cs := hN.1.second (i := r + 1) (j := r) (by omega) (by omega)
                  have fz := hN.1.frozen
                  clear e1
                  by_cases hl : f (r + 1) < f r
                  · have haj2 : a ≤ r := by
                      by_cases ea : a = r + 1
                      · have := (HLOW.out.swaps hS) (by omega) (r + 1) (by omega) (by omega)
                        rw [ea] at this
                        simp only [Nat.add_sub_cancel] at this
                        omega
                      · omega
                    have hd : decide (f (r + 1) < f r) = true := by simpa using hl
                    have HL := hide hl
                    clear hl
                    go_wp2_with fail
                    go_quiet ((go_at_call 44; exact Calls.quiet_of_same (less_any _ _ _)))
                    go_wp2_with fail
                    go_region
                    go_wp2
                    exact ⟨⟨r, swp f (r + 1) r, rfl, haj2, by omega, (hN.drewN _).swap (by omega) (by omega), hS.swp (by omega) (by omega) (by omega) (by omega), ins_step HI.out hjq haj2 HL.out⟩, by simp [intOf]⟩
                  · have hd : decide (f (r + 1) < f r) = false := by simpa using hl
                    have HL := hide hl
                    clear hl
                    go_wp2_with fail
                    go_quiet ((go_at_call 44; exact Calls.quiet_of_same (less_any _ _ _)))
                    go_wp2
                    go_meet
                    case rel => exact ⟨f, hN.drewN _, hS, ins_done HI.out hjq (.inr ⟨by omega, by have := HL.out; simp only [Nat.add_sub_cancel]; omega⟩)⟩
            · have t1 : ¬ (2 : Int) ≤ (q : Int) + 1 - (a : Int) := by omega
              go_wp2
              go_meet
              case rel => exact ⟨e', hN, hS, fun k r h1 h2 h3 => by omega⟩
          case rest =>
          clear hN hS HI
          obtain ⟨e', hN, hS, hSo⟩ := hcut
          have HSo := hide hSo
          clear hSo
          by_cases h2 : q + 1 + 2 ≤ b
          · have t1 : (2 : Int) ≤ (b : Int) - ((q : Int) + 1) := by omega
            go_wp2_with fail
            go_loopw [10] (fun x W => ∃ (j : Nat) (f : Nat → Int), x = .int .i64 ((j : Int) + 1) ∧ q + 1 ≤ j ∧ j < b ∧ Now w W base g n cap f ∧ Swaps a b d f ∧ Sorted a (q + 1) f) (fun x _ => b - (intOf x).toNat)
            case atStart => exact ⟨q + 1, e', by go_num, by omega, by omega, hN, hS, HSo.out⟩
            case round =>
              clear hN hS HSo t1
              obtain ⟨r, f, rfl, hqr, hrb, hN, hS, hSo⟩ := hrel
              have HSo := hide hSo
              clear hSo
              by_cases hlt : r + 1 < b
              · have l1 : (r : Int) + 1 < (b : Int) := by omega
                have r0 : (0 : Int) ≤ (r : Int) := by omega
                have r1 : (r : Int) < (n : Int) := by omega
                have r2 : (r : Int) < 16384 := by omega
                have r4 : (r : Int) + 1 < (n : Int) := by omega
                have r5 : (0 : Int) ≤ (r : Int) + 1 := by omega
                have c1 := hN.1.cell (i := r + 1) (by omega)
                have c2 := hN.1.cell (i := r) (by omega)
                have cs := hN.1.second (i := r + 1) (j := r) (by omega) (by omega)
                have fz := hN.1.frozen
                by_cases hl : f (r + 1) < f r
                · have hd : decide (f (r + 1) < f r) = true := by simpa using hl
                  clear hl
                  go_wp2_with fail
                  go_quiet ((go_at_call 44; exact Calls.quiet_of_same (less_any _ _ _)))
                  go_wp2_with fail
                  go_region
                  go_wp2
                  exact ⟨⟨r + 1, swp f (r + 1) r, by go_num, by omega, by omega, (hN.drewN _).swap (by omega) (by omega), hS.swp (by omega) (by omega) (by omega) (by omega), sorted_swp HSo.out (by omega) (by omega)⟩, by simp [intOf]; omega⟩
                · have hd : decide (f (r + 1) < f r) = false := by simpa using hl
                  clear hl
                  go_wp2_with fail
                  go_quiet ((go_at_call 44; exact Calls.quiet_of_same (less_any _ _ _)))
                  go_wp2
                  exact ⟨⟨q + 1, s + 1, f, by go_num, by go_num, hai, hib, by omega, hN.drewN _, hS, HSo.out⟩, by simp [intOf]; omega⟩
              · have l1 : ¬ (r : Int) + 1 < (b : Int) := by omega
                go_wp2
                exact ⟨⟨q + 1, s + 1, f, by go_num, by go_num, hai, hib, by omega, hN, hS, HSo.out⟩, by simp [intOf]; omega⟩
          · have t1 : ¬ (2 : Int) ≤ (b : Int) - ((q : Int) + 1) := by omega
            go_wp2
            exact ⟨⟨q + 1, s + 1, e', by go_num, by go_num, hai, hib, by omega, hN, hS, HSo.out⟩, by simp [intOf]; omega⟩
    · obtain rfl : s = 5 := by omega
      go_wp2
      go_ret
      exact ⟨false, rfl, e₀, hN0, hS0, fun hf => by simp at hf⟩
end Go.Proofs.Ybulkfhsm.C
